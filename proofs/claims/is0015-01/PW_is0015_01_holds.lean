import PyProof.Rows.All
import Wide.All
import OpenK.AllK
import Wide.FinOn
import Open.Tops
import PySem.Challenge.RW_is0015_01
set_option Elab.async false
set_option tactic.hygienic false
set_option maxRecDepth 100000
set_option linter.all false
namespace Mine
noncomputable section
open PySem PySem.W PySem.Calls PyProof.Rows
section
variable {den : Code → Sem Fin} {p : Program} {w : World}

theorem calm_loud {t : Thread} (h : t.calm = true) : t.loud = false := by
  rw [Thread.calm_eq] at h
  simp only [Bool.and_eq_true, Bool.not_eq_true'] at h
  exact h.1

theorem ni_step {s s1 s2 : Shared} {t t1 t2 : Thread} (hc : t.calm = true) (hs : step den p w s t = .go s1 t1)
    (es : s2.forget = s.forget) (et : t2.forget = t.forget) :
    ∃ s3 t3, stepI den p w s2 t2 = .go s3 t3 ∧ s3.forget = s1.forget ∧ t3.forget = t1.forget := by
  have hc2 : t2.calm = true := by rw [← Thread.calm_forget, et, Thread.calm_forget]; exact hc
  rw [stepI_quiet den p w (calm_loud hc2)]
  have e := (stepK_forget den p w s2 t2).trans (step_same den p w (s₁ := s2) (s₂ := s) (t₁ := t2) (t₂ := t) es et)
  rw [hs] at e
  cases q : stepK den p w s2 t2 with
  | halt o x => rw [q] at e; cases e
  | go s3 t3 =>
    rw [q] at e
    simp only [Step.forget, Step.go.injEq] at e
    exact ⟨s3, t3, rfl, e.1, e.2⟩

theorem runNI_succ (n : Nat) (s : Shared) (t : Thread) : runNI den p w (n + 1) s t = match stepI den p w s t with
  | .go s' t' => runNI den p w n s' t' | .halt o s' => .halted o s' := rfl
end

section
variable {tb : String → Option Builtin} {p : Program} {w : World} {n₀ : Nat} {ann : Option Value} {b : Nat}

theorem calm_of_ok {t : Thread} (h : stepOk n₀ ann t = true) : t.calm = true := (Bool.and_eq_true_iff.mp h).1

theorem ni_go : ∀ (n : Nat) (s s' s2 : Shared) (t t' t2 : Thread), segGo tb p w n₀ ann b n s t = some (s', t') → s2.forget = s.forget → t2.forget = t.forget →
    ∃ s3 t3, runNI (denote tb) p w n s2 t2 = .running s3 t3 ∧ s3.forget = s'.forget ∧ t3.forget = t'.forget
  | 0, s, s', s2, t, t', t2, h, es, et => by
    simp only [segGo, Option.some.injEq, Prod.mk.injEq] at h
    exact ⟨s2, t2, rfl, by rw [es, h.1], by rw [et, h.2]⟩
  | n + 1, s, s', s2, t, t', t2, h, es, et => by
    unfold segGo at h
    cases he : endAt b t with
    | some f => rw [he] at h; cases h
    | none =>
      rw [he] at h
      cases hk : stepOk n₀ ann t with
      | false => rw [hk] at h; cases h
      | true =>
        rw [hk] at h
        cases hs : step (denote tb) p w s t with
        | halt o s₂ => rw [hs] at h; cases h
        | go s₂ t₂ =>
          rw [hs] at h
          obtain ⟨s3, t3, e1, e2, e3⟩ := ni_step (calm_of_ok hk) hs es et
          obtain ⟨s4, t4, f1, f2, f3⟩ := ni_go n s₂ s' s3 t₂ t' t3 h e2 e3
          exact ⟨s4, t4, by rw [runNI_succ, e1]; exact f1, f2, f3⟩

theorem end_zero {t : Thread} {f : Flow} (h : endAt 0 t = some f) : t.stack = [] ∧ t.cur = .pure (.done f) := by
  obtain ⟨cur, code, pos, st⟩ := t
  unfold endAt at h
  cases st with
  | nil =>
    refine ⟨rfl, ?_⟩
    dsimp only at h ⊢
    cases cur with
    | pure x =>
      cases x with
      | done g => simp only [List.length_nil, beq_self_eq_true, Option.some.injEq] at h; rw [h]
      | again c => simp at h
    | _ => simp at h
  | cons a l => simp at h

theorem ni_run : ∀ (n : Nat) (s s' s2 : Shared) (t t2 : Thread) (f : Flow) (c : Code) (q : Pos), segRun tb p w n₀ ann 0 n s t = some (f, s', c, q) → s2.forget = s.forget → t2.forget = t.forget →
    ∃ m s3 t3, runNI (denote tb) p w m s2 t2 = .running s3 t3 ∧ s3.forget = s'.forget ∧ t3.cur = .pure (.done f) ∧ t3.stack = []
  | 0, _, _, _, _, _, _, _, _, h, _, _ => by cases h
  | n + 1, s, s', s2, t, t2, f, c, q, h, es, et => by
    unfold segRun at h
    cases he : endAt 0 t with
    | some g =>
      rw [he] at h
      simp only [Option.some.injEq, Prod.mk.injEq] at h
      obtain ⟨rfl, rfl, _, _⟩ := h
      obtain ⟨h1, h2⟩ := end_zero he
      refine ⟨0, s2, t2, rfl, es, ?_, ?_⟩
      · have := congrArg Thread.cur et; exact this.trans h2
      · have := congrArg Thread.stack et
        have e : forgetAll t2.stack = forgetAll t.stack := this
        rw [h1] at e
        cases hx : t2.stack with
        | nil => rfl
        | cons a l => rw [hx] at e; cases e
    | none =>
      rw [he] at h
      cases hk : stepOk n₀ ann t with
      | false => rw [hk] at h; cases h
      | true =>
        rw [hk] at h
        cases hs : step (denote tb) p w s t with
        | halt o s₂ => rw [hs] at h; cases h
        | go s₂ t₂ =>
          rw [hs] at h
          obtain ⟨s3, t3, e1, e2, e3⟩ := ni_step (calm_of_ok hk) hs es et
          obtain ⟨m, s4, t4, f1, f2, f3, f4⟩ := ni_run n s₂ s' s3 t₂ t3 f c q h e2 e3
          exact ⟨m + 1, s4, t4, by rw [runNI_succ, e1]; exact f1, f2, f3, f4⟩
end

theorem reach_of_ni {M : Model} : ∀ (n : Nat) {s s' s'' : Shared} {t t' : Sem Fin} {c c' : Code} {q q' : Pos} {st st' : List Frame} {e : End},
    runNI M.den M.prog M.w n s ⟨t, c, q, st⟩ = .running s' ⟨t', c', q', st'⟩ → Reach M [] s' t' c' q' st' s'' e → Reach M [] s t c q st s'' e
  | 0, s, s', s'', t, t', c, c', q, q', st, st', e, h, r => by
    simp only [runNI, Run.running.injEq, Thread.mk.injEq] at h
    obtain ⟨rfl, rfl, rfl, rfl, rfl⟩ := h
    exact r
  | n + 1, s, s', s'', t, t', c, c', q, q', st, st', e, h, r => by
    rw [runNI_succ] at h
    cases hs : stepI M.den M.prog M.w s ⟨t, c, q, st⟩ with
    | halt o x => rw [hs] at h; cases h
    | go s1 t1 =>
      obtain ⟨cu, co, po, sk⟩ := t1
      rw [hs] at h
      refine Reach.step (s₁ := s1) (t₁ := cu) (c₁ := co) (p₁ := po) (pre₁ := sk) ?_ (reach_of_ni n h r)
      rw [List.append_nil, List.append_nil]
      exact hs

noncomputable abbrev leafFrame (x : Code × Pos) : Frame := .ret leafOf none false [] x.1 x.2 []

theorem asleep_gens {s s' : Shared} (h : s'.forget = s.forget) (hg : s.gens = #[]) : s' = s := Shared.eq_of_forget_eq h hg

theorem forget_none {s : Shared} (hg : s.gens = #[]) : s.forget = s := by
  cases s; simp only at hg; subst hg; simp [Shared.forget]

section
variable {p : Program} {w : World} {n₀ : Nat} {ann : Option Value}

theorem runs_of_seg {n : Nat} {S S' : Shared} {t : Sem Fin} {c c' : Code} {q q' : Pos} {st : List Frame} {f : Flow} (hg : S'.gens = #[])
    (h : segRun table p w n₀ ann 0 n S ⟨t, c, q, st⟩ = some (f, S', c', q')) :
    Runs (model p w) (Ctx.of c []) q t st S (.ret (.ok f)) S' := by
  obtain ⟨m, s3, ⟨cu, co, po, sk⟩, e1, e2, e3, e4⟩ := ni_run n S S' S ⟨t, c, q, st⟩ ⟨t, c, q, st⟩ f c' q' h rfl rfl
  dsimp only at e3 e4
  subst e3 e4
  obtain rfl := asleep_gens e2 hg
  exact reach_runs (reach_of_ni (M := model p w) m e1 (Reach.exit ⟨rfl, rfl⟩))

def InvR (M : Model) (Γ : Ctx) (q : Pos) (t : Sem Fin) (K : List Frame) (s : Shared) (e : End) (s' : Shared) : Prop := match K with
  | .ret k h g l c₁ p₁ kp :: rest => match e with
    | .ret r => splitAtGen (.ret k h g l c₁ p₁ kp :: rest) = none → ∃ r₁ s₁, Runs M (Γ.over (.ret k h g l c₁ p₁ kp :: rest)) q t [] s (.ret r₁) s₁ ∧ Runs M (Γ.goto c₁) p₁ (k r₁) rest s₁ (.ret r) s'
    | _ => True
  | _ => True
theorem invR {M : Model} {Γ : Ctx} {q : Pos} {t : Sem Fin} {K : List Frame} {s : Shared} {e : End} {s' : Shared} (x : Runs M Γ q t K s e s') : InvR M Γ q t K s e s' := by
  induction x with
  | @segRet Γ p t k h g l c₁ p₁ kp fs s r s₁ e s' a b => cases e with
    | ret r => exact fun _ => ⟨_, _, a, b⟩
    | _ => trivial
  | @segSuspGen Γ p t F fs pre g k c₁ p₁ rest s v g₀ l₀ k₀ c₀ p₀ fs₀ s₁ e s' hs => cases F with
    | ret => cases e with
      | ret r => exact fun hn => by rw [hn] at hs; cases hs
      | _ => trivial
    | _ => trivial
  | @segSuspOut Γ p t F => cases F <;> trivial
  | _ => trivial
theorem runs_ret_invG {M : Model} {Γ : Ctx} {q : Pos} {t : Sem Fin} {k : Result → Sem Fin} {h : Option Value} {g : Bool} {l : List Value} {c₁ : Code} {p₁ : Pos} {kp : List Value} {s s' : Shared} {r : Result} {rest : List Frame}
    (hn : splitAtGen (.ret k h g l c₁ p₁ kp :: rest) = none) (x : Runs M Γ q t (.ret k h g l c₁ p₁ kp :: rest) s (.ret r) s') :
    ∃ r₁ s₁, Runs M (Γ.over (.ret k h g l c₁ p₁ kp :: rest)) q t [] s (.ret r₁) s₁ ∧ Runs M (Γ.goto c₁) p₁ (k r₁) rest s₁ (.ret r) s' := invR x hn
theorem runs_ret_inv {M : Model} {Γ : Ctx} {q : Pos} {t : Sem Fin} {k : Result → Sem Fin} {h : Option Value} {g : Bool} {l : List Value} {c₁ : Code} {p₁ : Pos} {kp : List Value} {s s' : Shared} {r : Result}
    (x : Runs M Γ q t [.ret k h g l c₁ p₁ kp] s (.ret r) s') :
    ∃ r₁ s₁, Runs M (Γ.over [.ret k h g l c₁ p₁ kp]) q t [] s (.ret r₁) s₁ ∧ Runs M (Γ.goto c₁) p₁ (k r₁) [] s₁ (.ret r) s' := by
  exact runs_ret_invG rfl x
theorem runs_ret_inv2 {M : Model} {Γ : Ctx} {q : Pos} {t : Sem Fin} {k : Result → Sem Fin} {h : Option Value} {g : Bool} {l : List Value} {c₁ : Code} {p₁ : Pos} {kp : List Value} {k2 : Result → Sem Fin} {h2 : Option Value} {g2 : Bool} {l2 : List Value} {c2 : Code} {p2 : Pos} {kp2 : List Value} {s s' : Shared} {r : Result}
    (x : Runs M Γ q t [.ret k h g l c₁ p₁ kp, .ret k2 h2 g2 l2 c2 p2 kp2] s (.ret r) s') :
    ∃ r₁ s₁, Runs M (Γ.over [.ret k h g l c₁ p₁ kp, .ret k2 h2 g2 l2 c2 p2 kp2]) q t [] s (.ret r₁) s₁ ∧ Runs M (Γ.goto c₁) p₁ (k r₁) [.ret k2 h2 g2 l2 c2 p2 kp2] s₁ (.ret r) s' := by
  exact runs_ret_invG rfl x
def InvL (t : Sem Fin) (s : Shared) (e : End) (s' : Shared) : Prop := match t with
  | .pure (.done f) => e = .ret (.ok f) ∧ s' = s
  | .raise v => e = .ret (.error v) ∧ s' = s
  | _ => True
theorem invL {M : Model} {Γ : Ctx} {q : Pos} {t : Sem Fin} {K : List Frame} {s : Shared} {e : End} {s' : Shared} (x : Runs M Γ q t K s e s') : K = [] → InvL t s e s' := by
  induction x with
  | done => exact fun _ => ⟨rfl, rfl⟩
  | raise => exact fun _ => ⟨rfl, rfl⟩
  | segRet => exact fun h => nomatch h
  | segGen => exact fun h => nomatch h
  | segSuspOut => exact fun h => nomatch h
  | segSuspGen => exact fun h => nomatch h
  | _ => exact fun _ => trivial
theorem runs_leaf_inv {M : Model} {Γ : Ctx} {q : Pos} {s s' : Shared} {r r₁ : Result} (x : Runs M Γ q (leafOf r₁) [] s (.ret r) s') : r = r₁ ∧ s' = s := by
  cases r₁ with
  | ok f => have h := invL x rfl; exact ⟨End.ret.inj h.1, h.2⟩
  | error v => have h := invL x rfl; exact ⟨End.ret.inj h.1, h.2⟩

noncomputable abbrev fin1 (t : Sem Flow) : Sem Fin := t.bind fun f => .pure (.done f)

theorem wp_of_runs {M : Model} {Γ : Ctx} {q : Pos} {t : Sem Flow} {s s' : Shared} {f : Flow} (x : Runs M Γ q (fin1 t) [] s (.ret (.ok f)) s') :
    Sem.wp M Γ t (fun g _ s₂ => g = f ∧ s₂ = s') (fun _ _ _ => False) q s := by
  have h := (Sem.wp_iff_runs M Γ (fin1 t) (fun r s₂ => r = .ok f ∧ s₂ = s') q s).mpr ⟨_, _, x, rfl, rfl⟩
  rw [Sem.wp_bind] at h
  refine Sem.wp_mono M Γ _ (fun g q' s₂ h2 => ?_) (fun e q' s₂ h2 => ?_) _ _ h
  · rw [Sem.wp_pure] at h2
    obtain ⟨h3, h4⟩ := h2
    injection h3 with h3
    exact ⟨h3, h4⟩
  · cases h2.1
theorem runs_of_wp {M : Model} {Γ : Ctx} {q : Pos} {t : Sem Flow} {s : Shared} {R : Flow → Shared → Prop} (h : Sem.wp M Γ t (fun g _ s₂ => R g s₂) (fun _ _ _ => False) q s) :
    ∃ f s', Runs M Γ q (fin1 t) [] s (.ret (.ok f)) s' ∧ R f s' := by
  have z : Sem.wp M Γ (fin1 t) (Sem.finPost M Γ fun r s' => ∃ f, r = .ok f ∧ R f s') (fun e _ s' => ∃ f, Except.error e = (.ok f : Result) ∧ R f s') q s := by
    rw [Sem.wp_bind]
    exact Sem.wp_mono M Γ _ (fun g q' s₂ h2 => by rw [Sem.wp_pure]; exact ⟨g, rfl, h2⟩) (fun _ _ _ h2 => h2.elim) _ _ h
  obtain ⟨r, s', hr, f, rfl, hf⟩ := (Sem.wp_iff_runs M Γ _ _ q s).mp z
  exact ⟨f, s', hr, hf⟩

theorem piece1 {n : Nat} {S S' : SharedT} {t : Sem Flow} {c : Code} {q : Pos} {x : Code × Pos} {f : Flow} (hg : S'.gens = #[])
    (h : (segRunT table p w n₀ ann 0 n S ⟨fin1 t, c, q, [leafFrame x]⟩).map (fun r => (r.1, r.2.1)) = some (f, S')) :
    Sem.wp (model p w) ((Ctx.of c []).over [leafFrame x]) t (fun g _ s₂ => g = f ∧ s₂ = S'.abs) (fun _ _ _ => False) q S.abs := by
  obtain ⟨⟨f', S2, c', q'⟩, h1, h2⟩ := Option.map_eq_some_iff.mp h
  simp only [Prod.mk.injEq] at h2
  obtain ⟨rfl, rfl⟩ := h2
  have r := runs_of_seg (S' := S2.abs) hg (segRun_of h1)
  obtain ⟨r₁, s₁, a, b⟩ := runs_ret_inv r
  obtain ⟨e1, e2⟩ := runs_leaf_inv b
  subst e1 e2
  exact wp_of_runs a
theorem piece2 {n : Nat} {S S' : SharedT} {t : Sem Flow} {c : Code} {q : Pos} {x y : Code × Pos} {f : Flow} (hg : S'.gens = #[])
    (h : (segRunT table p w n₀ ann 0 n S ⟨fin1 t, c, q, [leafFrame x, leafFrame y]⟩).map (fun r => (r.1, r.2.1)) = some (f, S')) :
    Sem.wp (model p w) ((Ctx.of c []).over [leafFrame x, leafFrame y]) t (fun g _ s₂ => g = f ∧ s₂ = S'.abs) (fun _ _ _ => False) q S.abs := by
  obtain ⟨⟨f', S2, c', q'⟩, h1, h2⟩ := Option.map_eq_some_iff.mp h
  simp only [Prod.mk.injEq] at h2
  obtain ⟨rfl, rfl⟩ := h2
  have r := runs_of_seg (S' := S2.abs) hg (segRun_of h1)
  obtain ⟨r₁, s₁, a, b⟩ := runs_ret_inv2 r
  obtain ⟨r₂, s₂, a2, b2⟩ := runs_ret_inv b
  obtain ⟨e1, e2⟩ := runs_leaf_inv b2
  subst e1 e2
  obtain ⟨e3, e4⟩ := runs_leaf_inv a2
  subst e3 e4
  exact wp_of_runs a
end

theorem wp_execs_append {M : Model} {Γ : Ctx} {env : Env} {E : Value → Pos → Shared → Prop} : ∀ (l1 l2 : List Stmt) {Q : Flow → Pos → Shared → Prop} {q : Pos} {s : Shared},
    Sem.wp M Γ (execs l1 env) (fun f q' s' => match f with | .next => Sem.wp M Γ (execs l2 env) Q E q' s' | f => Q f q' s') E q s → Sem.wp M Γ (execs (l1 ++ l2) env) Q E q s
  | [], l2, Q, q, s, h => h
  | a :: l1, l2, Q, q, s, h => by
    rw [List.cons_append, execs_cons] at *
    rw [Sem.wp_bind'] at h ⊢
    refine Sem.wp_mono M Γ _ (fun f q' s' h2 => ?_) (fun _ _ _ h2 => h2) _ _ h
    cases f with
    | next => exact wp_execs_append l1 l2 h2
    | _ => exact h2
theorem wp_next {M : Model} {Γ : Ctx} {l1 l2 : List Stmt} {env : Env} {Q : Flow → Pos → Shared → Prop} {E : Value → Pos → Shared → Prop} {q : Pos} {s S : Shared}
    (h : Sem.wp M Γ (execs l1 env) (fun f _ s' => f = .next ∧ s' = S) (fun _ _ _ => False) q s) (k : ∀ q', Sem.wp M Γ (execs l2 env) Q E q' S) : Sem.wp M Γ (execs (l1 ++ l2) env) Q E q s :=
  wp_execs_append l1 l2 (Sem.wp_mono M Γ _ (fun f q' s' h2 => by obtain ⟨rfl, rfl⟩ := h2; exact k q') (fun _ _ _ h2 => h2.elim) _ _ h)

theorem runs_through {p : Program} {w : World} {n₀ : Nat} {ann : Option Value} {b nA : Nat} {S SA SB s' : Shared} {t cur : Sem Fin} {c cA : Code} {q qA : Pos} {st : List Frame} {k : Result → Sem Fin} {lv : List Value} {cF : Code} {qF : Pos} {rB r : Result} {fs : List Frame}
    (hg : SA.gens = #[]) (hA : segGo table p w n₀ ann b nA S ⟨t, c, q, st⟩ = some (SA, ⟨cur, cA, qA, .ret k none false lv cF qF [] :: fs⟩)) (hfs : ∀ fs', forgetAll fs' = forgetAll fs →
      ∀ kp, Runs (model p w) (Ctx.of cA []) qA cur (.ret k none false lv cF qF kp :: fs') SA (.ret r) s') :
    Runs (model p w) (Ctx.of c []) q t st S (.ret r) s' := by
  obtain ⟨s3, ⟨cu, co, po, sk⟩, e1, e2, e3⟩ := ni_go nA S SA S ⟨t, c, q, st⟩ _ ⟨t, c, q, st⟩ hA rfl rfl
  obtain rfl := asleep_gens e2 hg
  simp only [Thread.forget, Thread.mk.injEq, forgetAll_cons] at e3
  obtain ⟨rfl, rfl, rfl, e4⟩ := e3
  cases sk with
  | nil => cases e4
  | cons F fs' =>
    rw [forgetAll_cons, List.cons.injEq] at e4
    obtain ⟨e5, e6⟩ := e4
    cases F with
    | gen => cases e5
    | ret k' h' g' l' c' q' kp =>
      simp only [Frame.forget, Frame.ret.injEq] at e5
      obtain ⟨rfl, rfl, rfl, rfl, rfl, rfl, _⟩ := e5
      refine reach_runs (reach_of_ni (M := model p w) nA e1 ?_)
      exact runs_reach (hfs fs' e6 kp) [] (Ctx.fits_of _ _)
end
noncomputable section
open PySem PySem.W PySem.Calls PyProof.Rows
noncomputable def strsFrom : Nat → List (Str × Pos) → List Value
  | _, [] => []
  | t, x :: r => .str x.1 t :: strsFrom (t + 1) r
noncomputable abbrev strConsts (ss : List (Str × Pos)) : List PySem.Expr := ss.map fun x => .Constant (.str x.1) 0 x.2
noncomputable abbrev setNil (led : Bool) : Obj := { cls := .type "set", dict := none, data := .set #[] 0 (.fresh 0 0 led) }

section
variable {prog : Program} {w : World} {A : Around} {E : Value → Shared → Prop} {env : Env}

theorem kdsAll_strs : ∀ (ss : List (Str × Pos)) (s : Shared) (P : List Value → Shared → Prop), P (strsFrom s.toks ss) { s with toks := s.toks + ss.length } →
    KdsAll (model prog w) A E env (strConsts ss) P s
  | [], s, P, h => h
  | x :: r, s, P, h => by
    show wpAny _ A (eval (.Constant (.str x.1) 0 x.2) env) _ E s
    refine wpAny_Constant_str ?_
    refine kdsAll_strs r _ _ ?_
    have e : s.toks + 1 + r.length = s.toks + (x :: r).length := by rw [List.length_cons]; lia
    show P _ { s with toks := s.toks + 1 + r.length }
    rw [e]; exact h

theorem kdsFill_strs {u : Bool} {d : Addr} {Q : Value → Shared → Prop} : ∀ (ss : List (Str × Pos)) (t : Nat) (s : Shared) (S : Str → Bool) (n : Nat), (ss.map (·.1)).Nodup → (∀ x ∈ ss, S x.1 = false) →
    s.heap.SetOf (strKind prog w) d S n → n + ss.length < 1000 →
    (∀ h' so, Heap.SameBut d s.heap h' → h'.get? d = some so → so.SetObjOf (strKind prog w) (fun k => S k || ss.any fun x => decide (k = x.1)) (n + ss.length) → Q (.ref d) { s with heap := h', toks := s.toks + ss.length }) →
    KdsFill (model prog w) A E u d Q (strsFrom t ss) s
  | [], t, s, S, n, _, _, hS, hn, h => by
    have hS0 := hS
    obtain ⟨so, ho, hso⟩ := hS.objOf
    have hQ : Q (.ref d) s := by
      have := h s.heap so (.refl ..) ho (by simpa using hso)
      exact this
    show if u = true then _ else _
    cases u with
    | false => rw [if_neg Bool.false_ne_true]; exact hQ
    | true =>
      rw [if_pos rfl]
      obtain ⟨o, es, ep, tt, ho', hex, hd, hel, hmem, hb, hf, hn'⟩ := hS0
      have hf' : ({ tt with led := false } : SetTable).fits es.size = true := by cases tt; exact hf
      unfold setUnled
      refine wpAny_bind (wpAny_setState_of ho' hd hf ?_)
      dsimp only
      refine wpAny_storeSet_of ho' hd ?_ (fits_of_scanBound hb)
      obtain ⟨_, hS'⟩ := SetOf_store (knd := strKind prog w) ho' hex hd hel hmem hb hf'
      obtain ⟨so', ho2, hso'⟩ := hS'.objOf
      rw [hn'] at hso'
      exact h _ so' (Heap.SameBut.update s.heap d (Obj.putSet es { tt with led := false })) ho2 (by simpa using hso')
  | x :: r, t, s, S, n, hnd, hfree, hS, hn, h => by
    rw [List.map_cons, List.nodup_cons] at hnd
    rw [List.length_cons] at hn
    refine kds_fill_cons ?_
    unfold setAdd
    refine wpAny_holding (wpAny_bind ((strKind prog w).pyHash (strKind_is prog w x.1 t) ?_))
    refine wpAny_setAddHashed_of (knd := strKind prog w) (k := x.1) (s := { s with toks := s.toks + 1 }) (strKind_is prog w x.1 t) rfl hS (show n + 1 < 4096 by lia) fun h' hsb hS' => ?_
    rw [hfree x (.head _), if_neg Bool.false_ne_true] at hS'
    refine kdsFill_strs r (t + 1) _ _ (n + 1) hnd.2 (fun y hy => ?_) hS' (by lia) fun h2 so hsb2 ho2 hso2 => ?_
    · rw [hfree y (.tail _ hy), Bool.false_or]
      refine decide_eq_false fun q => hnd.1 ?_
      rw [← q]; exact List.mem_map_of_mem hy
    · have e1 : s.toks + 1 + r.length = s.toks + (x :: r).length := by rw [List.length_cons]; lia
      have e2 : n + 1 + r.length = n + (x :: r).length := by rw [List.length_cons]; lia
      have := h h2 so (hsb.trans hsb2) ho2 (by
        rw [← e2]
        have e : (fun k => S k || (x :: r).any fun x => decide (k = x.1)) = (fun k' => (S k' || decide (k' = x.1)) || r.any fun x => decide (k' = x.1)) := by
          funext k; rw [List.any_cons, Bool.or_assoc]
        rw [e]; exact hso2)
      rw [← e1] at this
      exact this

theorem set_disp {K : Frag} {s : Shared} {Q : Value → Shared → Prop} {elts : List PySem.Expr} {pos : Pos} (ss : List (Str × Pos)) (he : elts = strConsts ss) (X : K.In s.heap) (hc : kdsCode K env.code = true)
    (hnd : (ss.map (·.1)).Nodup) (hlen : ss.length ≤ 30)
    (h : ∀ h' so led, Heap.SameBut s.heap.objs.size (s.heap.push (setNil led)) h' → h'.get? s.heap.objs.size = some so → so.SetObjOf (strKind prog w) (fun k => ss.any fun x => decide (k = x.1)) ss.length →
      Q (.ref s.heap.objs.size) { s with heap := h', toks := s.toks + ss.length + ss.length }) :
    wpAny (model prog w) A (eval (.Set elts 0 pos) env) Q E s := by
  subst he
  have hp : (strConsts ss).all kdsPlain = true := by
    rw [List.all_eq_true]
    intro x hx
    obtain ⟨y, _, rfl⟩ := List.mem_map.mp hx
    rfl
  rw [arm_eval_Set]
  refine wpAny_bind (wpAny_standAt ?_)
  refine wpAny_bind (kds_main X hc fun b => ?_)
  rw [kds_star _ hp, List.map_map]
  refine kds_core (ts := (evalEach (strConsts ss) env).map fun t => do let v ← t; standAt pos; pure v) ?_ ?_ ?_ ?_ fun led => ?_
  · unfold displayRoad
    rw [if_neg (by decide)]
    split
    · rfl
    · split <;> rfl
  · refine List.findIdx?_eq_none_iff.mpr fun x hx => ?_
    obtain ⟨t, _, rfl⟩ := List.mem_map.mp hx
    rfl
  · rw [List.length_map, kds_len, List.length_map]; exact hlen
  · rw [List.map_map]; try rfl
  · refine kds_all pos _ _ _ (kdsAll_strs ss _ _ ?_)
    refine kdsFill_strs ss _ _ (fun _ => false) 0 hnd (fun _ _ => rfl) ?_ (by lia) fun h' so hsb ho hso => ?_
    · exact (setObjOf_fresh led).setOf (Heap.get?_push_size _ rfl) (by decide)
    · rw [Nat.zero_add] at hso
      refine h h' so led hsb ho ?_
      have e : (fun k => false || ss.any fun x => decide (k = x.1)) = fun k => ss.any fun x => decide (k = x.1) := by funext k; rw [Bool.false_or]
      rw [e] at hso; exact hso
end
end
noncomputable section
open PySem PySem.W PySem.Calls PyProof.Rows
theorem life_update (h : Heap) (a : Addr) (f : Obj → Obj) : (h.update a f).life = h.life := by cases h; rfl

set_option tactic.hygienic true in
theorem runs_life {M : Model} {Γ : Ctx} {q : Pos} {t : Sem Fin} {fs : List Frame} {s s' : Shared} {e : End} (h : Runs M Γ q t fs s e s') : s'.heap.life = s.heap.life := by
  induction h <;> first
    | rfl
    | assumption
    | (rename_i ih; exact ih.trans (life_update _ _ _))
    | (rename_i ih; exact ih.trans (Heap.life_push _ _))
    | (rename_i i1 i2; exact i2.trans i1)
    | (rename_i ih; exact ih)

theorem wp_life {M : Model} {Γ : Ctx} {q : Pos} {t : Sem Value} {s : Shared} {Q : Value → Shared → Prop} (h : Sem.wp M Γ t (fun g _ s₂ => Q g s₂) (fun _ _ _ => False) q s) :
    Sem.wp M Γ t (fun g _ s₂ => Q g s₂ ∧ s₂.heap.life = s.heap.life) (fun _ _ _ => False) q s := by
  have z : Sem.wp M Γ (t.bind fun v => (.pure (.done (.ret v)) : Sem Fin)) (Sem.finPost M Γ fun r s' => ∃ v, r = .ok (.ret v) ∧ Q v s') (fun e _ s' => ∃ v, Except.error e = (.ok (.ret v) : Result) ∧ Q v s') q s := by
    rw [Sem.wp_bind]
    exact Sem.wp_mono M Γ _ (fun g q' s₂ h2 => by rw [Sem.wp_pure]; exact ⟨g, rfl, h2⟩) (fun _ _ _ h2 => h2.elim) _ _ h
  obtain ⟨r, s', hr, v, rfl, hv⟩ := (Sem.wp_iff_runs M Γ _ _ q s).mp z
  have h2 := (Sem.wp_iff_runs M Γ _ (fun r s₂ => ∃ v, r = .ok (.ret v) ∧ Q v s₂ ∧ s₂.heap.life = s.heap.life) q s).mpr ⟨_, _, hr, v, rfl, hv, runs_life hr⟩
  rw [Sem.wp_bind] at h2
  refine Sem.wp_mono M Γ _ (fun g q' s₂ h3 => ?_) (fun e q' s₂ h3 => ?_) _ _ h2
  · rw [Sem.wp_pure] at h3
    obtain ⟨v', e, h4⟩ := h3
    injection e with e
    injection e with e
    subst e
    exact h4
  · obtain ⟨_, e, _⟩ := h3; cases e

theorem heap_is {h' : Heap} {T : BT} {n : Nat} {life : Life} (hs : h'.objs.size = n) (hg : ∀ b, b < n → ∃ o, T.get b = some o ∧ h'.get? b = some o) (hl : h'.life = life) : h' = absHeap T n life := by
  obtain ⟨objs, l⟩ := h'
  simp only at hl hs
  subst hl
  have : objs = (absHeap T n l).objs := by
    apply Array.ext_getElem?
    intro b
    rw [absHeap_at]
    by_cases hb : b < n
    · rw [if_pos hb]
      obtain ⟨o, h1, h2⟩ := hg b hb
      rw [h1]
      have h3 := (Heap.get?_some_iff.mp h2).1
      exact h3
    · rw [if_neg hb]
      exact Array.getElem?_eq_none (by omega)
  show Heap.mk _ _ = Heap.mk _ _
  exact congrArg (Heap.mk · l) this

noncomputable def allLive (T : BT) (n : Nat) : Bool := (List.range n).all fun b => (T.get b).any fun o => !o.isFreed
theorem live_get {T : BT} {n : Nat} {life : Life} (h : allLive T n = true) {b : Nat} (hb : b < n) : ∃ o, T.get b = some o ∧ (absHeap T n life).get? b = some o := by
  have := List.all_eq_true.mp h b (List.mem_range.mpr hb)
  obtain ⟨o, h1, h2⟩ := any_some this
  refine ⟨o, h1, ?_⟩
  rw [abs_get hb h1]
  obtain ⟨c, d, dt, sl⟩ := o
  cases dt <;> first | rfl | (simp [Obj.isFreed] at h2)

theorem set_state {T T' : BT} {n : Nat} {life : Life} {h' : Heap} {o so : Obj} (hT : allLive T n = true) (hT' : ∀ b, b < n → T'.get b = T.get b) (hn : T'.get n = some so)
    (hf : o.isFreed = false) (hsb : Heap.SameBut n ((absHeap T n life).push o) h') (ho : h'.get? n = some so) (hl : h'.life = life) : h' = absHeap T' (n + 1) life := by
  refine heap_is ?_ (fun b hb => ?_) hl
  · rw [hsb.1, Heap.size_push, absHeap_size]
  · by_cases e : b = n
    · subst e; exact ⟨so, hn, ho⟩
    · have hb' : b < n := by omega
      obtain ⟨x, h1, h2⟩ := live_get (life := life) hT hb'
      refine ⟨x, by rw [hT' b hb']; exact h1, ?_⟩
      rw [hsb.2 b e]
      exact Heap.get?_push_of_some _ h2

noncomputable def headA (u d : Nat) : Around := { handled := none, depth := d, frames := none, guards := none, units := u }
theorem in_headA {Γ : Ctx} {u d : Nat} (h1 : Γ.handled = none) (h2 : frameCount Γ.below + Γ.code.weight ≤ d) (h3 : Γ.units ≤ u) : Γ.In (headA u d) :=
  ⟨h1, h2, (fun _ e => (nomatch e)), (fun _ e => (nomatch e)), h3⟩
end
noncomputable section
open PySem PySem.W PySem.Calls PyProof.Rows
namespace H
abbrev PW : Program := PySem.Challenge.pw_is0015_01
def clsOf : Stmt → List Stmt
  | .ClassDef _ _ _ b _ _ _ _ _ _ _ => b
  | _ => []
def clsScope : Stmt → Scope
  | .ClassDef _ _ _ _ _ _ s _ _ _ _ => s
  | _ => { kind := .module, names := [], isGenerator := false, isCoroutine := false }
def st1 (i : Nat) : Stmt := PW.main.body.getD i (.Pass ⟨0, 0, 0, 0⟩)
def st2 (i j : Nat) : Stmt := (clsOf (st1 i)).getD j (.Pass ⟨0, 0, 0, 0⟩)
def fn (s : Stmt) (q : String) (g : Addr) (dV kV doc pm : Value) (an : Option Addr) (cd ct : Value) (bl : Addr) : FuncData :=
  match s with
  | .FunctionDef n a b _ _ _ sc _ _ _ => { name := n, qualname := q, params := a, body := .stmts b, scope := sc, globals := g, closure := [], defaults := dV, kwdefaults := kV, doc := doc, pyModule := pm, annotations := an, code := cd, closureTuple := ct, builtins := bl }
  | _ => default
noncomputable abbrev N : Value := .none
noncomputable abbrev I (i : Int) : Value := .int i 0
noncomputable abbrev S (s : String) (t : Tok) : Value := .str (Str.ofString s) t
noncomputable abbrev T (s : String) : Value := .type s
noncomputable abbrev B (s : String) : Value := .builtin s
noncomputable abbrev R (a : Addr) : Value := .ref a
structure X where
  P : Params
  v : Obj
  d : Obj
noncomputable abbrev E (x : X) (s : String) (t : Tok) (v : Value) : DictEntry := ⟨PyData.keyHash x.P (Str.ofString s), .str (Str.ofString s) t, v⟩
abbrev nd (o : Obj) (a b : BT) : BT := .node o a b
abbrev lf (o : Obj) : BT := .node o .nil .nil
def o0 (x : X) : Obj := ⟨(T "dict"), none, (.dict #[E x "__name__" 1 (S "builtins" 160), E x "__doc__" 2 (B "builtins.__doc__:str#opaque"), E x "__package__" 3 (B "builtins.__package__:str#opaque"), E x "__loader__" 4 (B "builtins.__loader__:shared#opaque"), E x "__spec__" 5 (B "builtins.__spec__#opaque"), E x "__build_class__" 6 (B "__build_class__"), E x "__import__" 7 (B "__import__"), E x "abs" 8 (B "abs"), E x "all" 9 (B "all"), E x "any" 10 (B "any"), E x "ascii" 11 (B "ascii"), E x "bin" 12 (B "bin"), E x "breakpoint" 13 (B "breakpoint"), E x "callable" 14 (B "callable"), E x "chr" 15 (B "chr"), E x "compile" 16 (B "compile"), E x "delattr" 17 (B "delattr"), E x "dir" 18 (B "dir"), E x "divmod" 19 (B "divmod"), E x "eval" 20 (B "eval"), E x "exec" 21 (B "exec"), E x "format" 22 (B "format"), E x "getattr" 23 (B "getattr"), E x "globals" 24 (B "globals"), E x "hasattr" 25 (B "hasattr"), E x "hash" 26 (B "hash"), E x "hex" 27 (B "hex"), E x "id" 28 (B "id"), E x "input" 29 (B "input"), E x "isinstance" 30 (B "isinstance"), E x "issubclass" 31 (B "issubclass"), E x "iter" 32 (B "iter"), E x "aiter" 33 (B "aiter"), E x "len" 34 (B "len"), E x "locals" 35 (B "locals"), E x "max" 36 (B "max"), E x "min" 37 (B "min"), E x "next" 38 (B "next"), E x "anext" 39 (B "anext"), E x "oct" 40 (B "oct"), E x "ord" 41 (B "ord"), E x "pow" 42 (B "pow"), E x "print" 43 (B "print"), E x "repr" 44 (B "repr"), E x "round" 45 (B "round"), E x "setattr" 46 (B "setattr"), E x "sorted" 47 (B "sorted"), E x "sum" 48 (B "sum"), E x "vars" 49 (B "vars"), E x "None" 50 N, E x "Ellipsis" 51 .ellipsis, E x "NotImplemented" 52 .notImplemented, E x "False" 53 (.bool false), E x "True" 54 (.bool true), E x "bool" 55 (T "bool"), E x "memoryview" 56 (T "memoryview"), E x "bytearray" 57 (T "bytearray"), E x "bytes" 58 (T "bytes"), E x "classmethod" 59 (T "classmethod"), E x "complex" 60 (T "complex"), E x "dict" 61 (T "dict"), E x "enumerate" 62 (T "enumerate"), E x "filter" 63 (T "filter"), E x "float" 64 (T "float"), E x "frozenset" 65 (T "frozenset"), E x "property" 66 (T "property"), E x "int" 67 (T "int"), E x "list" 68 (T "list"), E x "map" 69 (T "map"), E x "object" 70 (T "object"), E x "range" 71 (T "range"), E x "reversed" 72 (T "reversed"), E x "set" 73 (T "set"), E x "slice" 74 (T "slice"), E x "staticmethod" 75 (T "staticmethod"), E x "str" 76 (T "str"), E x "super" 77 (T "super"), E x "tuple" 78 (T "tuple"), E x "type" 79 (T "type"), E x "zip" 80 (T "zip"), E x "__debug__" 81 (.bool true), E x "BaseException" 82 (T "BaseException"), E x "BaseExceptionGroup" 83 (T "BaseExceptionGroup"), E x "Exception" 84 (T "Exception"), E x "GeneratorExit" 85 (T "GeneratorExit"), E x "KeyboardInterrupt" 86 (T "KeyboardInterrupt"), E x "SystemExit" 87 (T "SystemExit"), E x "ArithmeticError" 88 (T "ArithmeticError"), E x "AssertionError" 89 (T "AssertionError"), E x "AttributeError" 90 (T "AttributeError"), E x "BufferError" 91 (T "BufferError"), E x "EOFError" 92 (T "EOFError"), E x "ImportError" 93 (T "ImportError"), E x "LookupError" 94 (T "LookupError"), E x "MemoryError" 95 (T "MemoryError"), E x "NameError" 96 (T "NameError"), E x "OSError" 97 (T "OSError"), E x "ReferenceError" 98 (T "ReferenceError"), E x "RuntimeError" 99 (T "RuntimeError"), E x "StopAsyncIteration" 100 (T "StopAsyncIteration"), E x "StopIteration" 101 (T "StopIteration"), E x "SyntaxError" 102 (T "SyntaxError"), E x "SystemError" 103 (T "SystemError"), E x "TypeError" 104 (T "TypeError"), E x "ValueError" 105 (T "ValueError"), E x "Warning" 106 (T "Warning"), E x "FloatingPointError" 107 (T "FloatingPointError"), E x "OverflowError" 108 (T "OverflowError"), E x "ZeroDivisionError" 109 (T "ZeroDivisionError"), E x "BytesWarning" 110 (T "BytesWarning"), E x "DeprecationWarning" 111 (T "DeprecationWarning"), E x "EncodingWarning" 112 (T "EncodingWarning"), E x "FutureWarning" 113 (T "FutureWarning"), E x "ImportWarning" 114 (T "ImportWarning"), E x "PendingDeprecationWarning" 115 (T "PendingDeprecationWarning"), E x "ResourceWarning" 116 (T "ResourceWarning"), E x "RuntimeWarning" 117 (T "RuntimeWarning"), E x "SyntaxWarning" 118 (T "SyntaxWarning"), E x "UnicodeWarning" 119 (T "UnicodeWarning"), E x "UserWarning" 120 (T "UserWarning"), E x "BlockingIOError" 121 (T "BlockingIOError"), E x "ChildProcessError" 122 (T "ChildProcessError"), E x "ConnectionError" 123 (T "ConnectionError"), E x "FileExistsError" 124 (T "FileExistsError"), E x "FileNotFoundError" 125 (T "FileNotFoundError"), E x "InterruptedError" 126 (T "InterruptedError"), E x "IsADirectoryError" 127 (T "IsADirectoryError"), E x "NotADirectoryError" 128 (T "NotADirectoryError"), E x "PermissionError" 129 (T "PermissionError"), E x "ProcessLookupError" 130 (T "ProcessLookupError"), E x "TimeoutError" 131 (T "TimeoutError"), E x "IndentationError" 132 (T "IndentationError"), E x "_IncompleteInputError" 133 (T "_IncompleteInputError"), E x "IndexError" 134 (T "IndexError"), E x "KeyError" 135 (T "KeyError"), E x "ModuleNotFoundError" 136 (T "ModuleNotFoundError"), E x "NotImplementedError" 137 (T "NotImplementedError"), E x "PythonFinalizationError" 138 (T "PythonFinalizationError"), E x "RecursionError" 139 (T "RecursionError"), E x "UnboundLocalError" 140 (T "UnboundLocalError"), E x "UnicodeError" 141 (T "UnicodeError"), E x "BrokenPipeError" 142 (T "BrokenPipeError"), E x "ConnectionAbortedError" 143 (T "ConnectionAbortedError"), E x "ConnectionRefusedError" 144 (T "ConnectionRefusedError"), E x "ConnectionResetError" 145 (T "ConnectionResetError"), E x "TabError" 146 (T "TabError"), E x "UnicodeDecodeError" 147 (T "UnicodeDecodeError"), E x "UnicodeEncodeError" 148 (T "UnicodeEncodeError"), E x "UnicodeTranslateError" 149 (T "UnicodeTranslateError"), E x "ExceptionGroup" 150 (T "ExceptionGroup"), E x "EnvironmentError" 151 (T "OSError"), E x "IOError" 152 (T "OSError"), E x "open" 153 (B "open"), E x "quit" 154 (B "builtins.quit#opaque"), E x "exit" 155 (B "builtins.exit#opaque"), E x "copyright" 156 (B "builtins.copyright#opaque"), E x "credits" 157 (B "builtins.credits#opaque"), E x "license" 158 (B "builtins.license#opaque"), E x "help" 159 (B "builtins.help#opaque")] 159), #[]⟩
def o1 (x : X) : Obj := ⟨(T "dict"), none, (.dict #[E x "builtins" 162 (R 4), E x "__main__" 163 (R 5)] 2), #[]⟩
def o2 (x : X) : Obj := ⟨(T "dict"), none, (.dict #[E x "__name__" 165 (S "__main__" 164), E x "__doc__" 166 N, E x "__package__" 167 N, E x "__loader__" 168 (B "__main__.__loader__#opaque"), E x "__spec__" 169 N, E x "__annotations__" 170 (R 6), E x "__builtins__" 171 (R 4), E x "__file__" 173 (S "/claim/cut.py" 172), E x "__cached__" 174 N] 9), #[]⟩
def o3 (x : X) : Obj := ⟨(T "tuple"), none, (.seq #[] 0), #[]⟩
def o4 (x : X) : Obj := ⟨(T "module"), (some 3), .plain, #[]⟩
def o5 (x : X) : Obj := ⟨(T "code"), none, (.fields #[(S "<module>" 176), (S "<module>" 177), (S "/claim/cut.py" 178), (I 1), (I 0), (I 0), (I 0), (I 0), (R 7), (.bool false), (I 175), (R 8), N, N, N, N, (I 179), (I 1), (S "/claim/cut.py" 180)]), #[]⟩
def o6 (x : X) : Obj := ⟨N, none, (.dict #[] 0), #[]⟩
def o7 (x : X) : Obj := ⟨(T "module"), (some 0), .plain, #[]⟩
def o8 (x : X) : Obj := ⟨N, none, (.fields #[]), #[]⟩
def o9 (x : X) : Obj := ⟨(T "dict"), none, (.dict #[] 0), #[]⟩
def o10 (x : X) : Obj := ⟨(T "frame"), none, .plain, #[(some (R 9)), (some (R 3)), (some (R 3)), none, (some (S "__main__" 164)), none, (some (R 0))]⟩
def t6 (x : X) : BT := nd (o0 x) (nd (o1 x) (nd (o2 x) (lf (o3 x)) .nil) (nd (o4 x) (lf (o5 x)) .nil)) (nd (o6 x) (nd (o7 x) (lf (o8 x)) .nil) (nd (o9 x) (lf (o10 x)) .nil))
def sBoot (w : World) (v d : Obj) (os : OsState) : SharedT := ⟨(t6 ⟨w.params, v, d⟩), 11, {}, #[], {}, 181, os⟩
def o11 (x : X) : Obj := ⟨(T "code"), none, (.fields #[(S "<module>" 182), (S "<module>" 183), (S "/claim/cut.py" 184), (I 1), (I 0), (I 0), (I 0), (I 0), (R 11), (.bool false), (I 181), (R 12), N, N, N, N, (I 185), (I 1), (S "/claim/cut.py" 186)]), #[]⟩
def o12 (x : X) : Obj := ⟨(T "frame"), none, .plain, #[(some (R 13)), (some (R 3)), (some (R 3)), none, (some (S "__main__" 164)), none, (some (R 0))]⟩
def t13 (x : X) : BT := nd (o0 x) (nd (o1 x) (nd (o2 x) (lf (o3 x)) (lf (o3 x))) (nd (o4 x) (lf (o5 x)) (lf (o11 x)))) (nd (o6 x) (nd (o7 x) (lf (o8 x)) (lf (o8 x))) (nd (o9 x) (lf (o10 x)) (lf (o12 x))))
def sPre (w : World) (v d : Obj) (os : OsState) : SharedT := ⟨(t13 ⟨w.params, v, d⟩), 15, {}, #[], {}, 187, os⟩
def o13 (x : X) : Obj := ⟨(T "dict"), none, (.dict #[E x "__name__" 165 (S "snowballstemmer.esperanto_stemmer" 473), E x "__doc__" 166 N, E x "__package__" 167 N, E x "__loader__" 168 (B "__main__.__loader__#opaque"), E x "__spec__" 169 N, E x "__annotations__" 170 (R 6), E x "__builtins__" 171 (R 4), E x "__file__" 173 (S "/claim/cut.py" 172), E x "__cached__" 174 N, E x "_wall" 193 (R 21), E x "BaseStemmer" 437 (R 199), E x "Among" 472 (R 220)] 12), #[]⟩
def o14 (x : X) : Obj := ⟨(T "tuple"), none, (.seq #[(S "self" 211)] 0), #[]⟩
def o15 (x : X) : Obj := ⟨(T "function"), none, (.func (fn (st2 2 4) "BaseStemmer.in_grouping" 3 N N N (S "snowballstemmer.basestemmer" 194) none (R 62) N 0)), #[]⟩
def o16 (x : X) : Obj := ⟨N, none, (.func (fn (st2 2 18) "BaseStemmer.slice_del" 0 N N N N none N N 0)), #[]⟩
def o17 (x : X) : Obj := ⟨(T "super"), none, (.fields #[(R 220), (R 220), (R 220)]), #[]⟩
def o18 (x : X) : Obj := ⟨N, none, (.func (fn (st2 2 2) "BaseStemmer.get_current" 0 N N N N none N N 0)), #[]⟩
def o19 (x : X) : Obj := ⟨(T "tuple"), none, (.seq #[(S "self" 361), (S "c_bra" 362), (S "c_ket" 363), (S "s" 364), (S "adjustment" 365)] 0), #[]⟩
def o20 (x : X) : Obj := ⟨(T "code"), none, (.fields #[(S "go_out_grouping_b" 294), (S "BaseStemmer.go_out_grouping_b" 295), (S "/claim/cut.py" 296), (I 50), (I 2), (I 0), (I 0), (I 3), (R 106), (.bool true), (I 181), (R 107), N, (R 108), (R 109), (R 110), (I 299), (I 50), (S "/claim/cut.py" 300)]), #[]⟩
def o21 (x : X) : Obj := ⟨(T "function"), none, (.func (fn (st2 2 20) "BaseStemmer.slice_to" 3 N N N (S "snowballstemmer.basestemmer" 194) none (R 174) N 0)), #[]⟩
def t20 (x : X) : BT := nd (o3 x) (nd (o14 x) (nd (o15 x) (lf (o3 x)) (lf (o8 x))) (nd (o3 x) (lf (o16 x)) (lf (o17 x)))) (nd (o18 x) (nd (o8 x) (lf (o19 x)) (lf (o3 x))) (nd (o20 x) (lf (o21 x)) .nil))
def o22 (x : X) : Obj := ⟨(T "builtin_function_or_method"), none, (.fields #[(B "type.__prepare__"), (T "type")]), #[]⟩
def o23 (x : X) : Obj := ⟨(T "type"), none, (.cls { name := "BaseStemmer", bases := [(T "object")], mro := [(R 199), (T "object")], ns := 198, qualname := "BaseStemmer", hasDict := true, slotNames := [], subclasses := [], abstract := false, collection := none, hasDel := false }), #[none, none, (some (S "BaseStemmer" 196)), (some (S "BaseStemmer" 204)), (some (B "object.__new__")), (some (.bool true))]⟩
def o24 (x : X) : Obj := ⟨N, none, (.func (fn (st2 2 10) "BaseStemmer.out_grouping_b" 0 N N N N none N N 0)), #[]⟩
def o25 (x : X) : Obj := ⟨(T "code"), none, (.fields #[(S "insert" 384), (S "BaseStemmer.insert" 385), (S "/claim/cut.py" 386), (I 180), (I 4), (I 0), (I 0), (I 3), (R 162), (.bool true), (I 181), (R 163), N, (R 164), (R 165), (R 166), (I 391), (I 180), (S "/claim/cut.py" 392)]), #[]⟩
def o26 (x : X) : Obj := ⟨(T "code"), none, (.fields #[(S "copy_from" 230), (S "BaseStemmer.copy_from" 231), (S "/claim/cut.py" 232), (I 21), (I 2), (I 0), (I 0), (I 3), (R 50), (.bool true), (I 181), (R 51), N, (R 52), (R 53), (R 54), (I 235), (I 21), (S "/claim/cut.py" 236)]), #[]⟩
def o27 (x : X) : Obj := ⟨(T "tuple"), none, (.seq #[(S "self" 273), (S "s" 274)] 0), #[]⟩
def o28 (x : X) : Obj := ⟨N, none, (.func (fn (st2 4 0) "Among.__init__" 0 N N N N none N N 0)), #[]⟩
def o29 (x : X) : Obj := ⟨(T "function"), none, (.func (fn (st2 2 12) "BaseStemmer.eq_s" 3 N N N (S "snowballstemmer.basestemmer" 194) none (R 118) N 0)), #[]⟩
def o30 (x : X) : Obj := ⟨N, none, (.func (fn (st1 0) "_wall" 0 N N N N none N N 0)), #[]⟩
def o31 (x : X) : Obj := ⟨(T "function"), none, (.func (fn (st2 2 0) "BaseStemmer.__init__" 3 N N N (S "snowballstemmer.basestemmer" 194) none (R 34) N 0)), #[]⟩
def o32 (x : X) : Obj := ⟨N, none, (.func (fn (st2 2 14) "BaseStemmer.find_among" 0 N N N N none N N 0)), #[]⟩
def o33 (x : X) : Obj := ⟨(T "code"), none, (.fields #[(S "stemWords" 416), (S "BaseStemmer.stemWords" 417), (S "/claim/cut.py" 418), (I 194), (I 2), (I 0), (I 0), (I 3), (R 190), (.bool true), (I 181), (R 191), N, (R 192), (R 193), (R 194), (I 421), (I 194), (S "/claim/cut.py" 422)]), #[]⟩
def t29 (x : X) : BT := nd (o3 x) (lf (o32 x)) (lf (o33 x))
def o34 (x : X) : Obj := ⟨(T "code"), none, (.fields #[(S "go_in_grouping_b" 262), (S "BaseStemmer.go_in_grouping_b" 263), (S "/claim/cut.py" 264), (I 38), (I 2), (I 0), (I 0), (I 3), (R 78), (.bool true), (I 181), (R 79), N, (R 80), (R 81), (R 82), (I 267), (I 38), (S "/claim/cut.py" 268)]), #[]⟩
def o35 (x : X) : Obj := ⟨(T "function"), none, (.func (fn (st2 2 16) "BaseStemmer.replace_s" 3 N N N (S "snowballstemmer.basestemmer" 194) none (R 146) N 0)), #[]⟩
def o36 (x : X) : Obj := ⟨(T "tuple"), none, (.seq #[(S "self" 305), (S "s" 306)] 0), #[]⟩
def t34 (x : X) : BT := nd (o8 x) (nd (o34 x) (lf (o35 x)) (lf (o3 x))) (nd (o36 x) (lf (o3 x)) .nil)
def o37 (x : X) : Obj := ⟨(T "code"), none, (.fields #[(S "BaseStemmer" 198), (S "BaseStemmer" 199), (S "/claim/cut.py" 200), (I 5), (I 0), (I 0), (I 0), (I 0), (R 25), (.bool false), (I 181), (R 26), N, N, N, N, (I 201), (I 5), (S "/claim/cut.py" 202)]), #[]⟩
def o38 (x : X) : Obj := ⟨N, none, (.func (fn (st2 2 6) "BaseStemmer.in_grouping_b" 0 N N N N none N N 0)), #[]⟩
def o39 (x : X) : Obj := ⟨(T "code"), none, (.fields #[(S "find_among_b" 338), (S "BaseStemmer.find_among_b" 339), (S "/claim/cut.py" 340), (I 114), (I 2), (I 0), (I 0), (I 3), (R 134), (.bool true), (I 181), (R 135), N, (R 136), (R 137), (R 138), (I 355), (I 114), (S "/claim/cut.py" 356)]), #[]⟩
def o40 (x : X) : Obj := ⟨(T "builtin_function_or_method"), none, (.fields #[(B "object.__init_subclass__"), (R 199)]), #[]⟩
def o41 (x : X) : Obj := ⟨(T "tuple"), none, (.seq #[(S "self" 397)] 0), #[]⟩
def o42 (x : X) : Obj := ⟨(T "tuple"), none, (.seq #[(S "self" 241), (S "s" 242)] 0), #[]⟩
def o43 (x : X) : Obj := ⟨(T "function"), none, (.func (fn (st2 2 8) "BaseStemmer.out_grouping" 3 N N N (S "snowballstemmer.basestemmer" 194) none (R 90) N 0)), #[]⟩
def o44 (x : X) : Obj := ⟨(T "dict"), none, (.dict #[E x "__module__" 447 (S "snowballstemmer.among" 438), E x "__firstlineno__" 451 (.int 197 450), E x "__init__" 461 (R 217), E x "__static_attributes__" 465 (R 218), E x "__dict__" 467 (R 221), E x "__weakref__" 469 (R 222), E x "__doc__" 470 N] 4), #[]⟩
def o45 (x : X) : Obj := ⟨N, none, (.func (fn (st2 2 22) "BaseStemmer.stemWord" 0 N N N N none N N 0)), #[]⟩
def t42 (x : X) : BT := nd (o37 x) (nd (o3 x) (nd (o38 x) (lf (o39 x)) (lf (o40 x))) (nd (o8 x) (lf (o41 x)) .nil)) (nd (o42 x) (nd (o43 x) (lf (o3 x)) (lf (o44 x))) (nd (o3 x) (lf (o45 x)) .nil))
def o46 (x : X) : Obj := ⟨(T "tuple"), none, (.seq #[(S "k" 190)] 0), #[]⟩
def o47 (x : X) : Obj := ⟨N, none, (.func (fn (st2 2 0) "BaseStemmer.__init__" 0 N N N N none N N 0)), #[]⟩
def o48 (x : X) : Obj := ⟨(T "tuple"), none, (.seq #[(S "self" 321), (S "v" 322), (S "i" 323), (S "j" 324), (S "c" 325), (S "l" 326), (S "common_i" 327), (S "common_j" 328), (S "first_key_inspected" 329), (S "k" 330), (S "diff" 331), (S "common" 332), (S "w" 333), (S "i2" 334)] 0), #[]⟩
def o49 (x : X) : Obj := ⟨(T "code"), none, (.fields #[(S "go_out_grouping" 278), (S "BaseStemmer.go_out_grouping" 279), (S "/claim/cut.py" 280), (I 44), (I 2), (I 0), (I 0), (I 3), (R 92), (.bool true), (I 181), (R 93), N, (R 94), (R 95), (R 96), (I 283), (I 44), (S "/claim/cut.py" 284)]), #[]⟩
def o50 (x : X) : Obj := ⟨(T "function"), none, (.func (fn (st2 2 18) "BaseStemmer.slice_del" 3 N N N (S "snowballstemmer.basestemmer" 194) none (R 160) N 0)), #[]⟩
def o51 (x : X) : Obj := ⟨(T "function"), none, (.func (fn (st2 2 2) "BaseStemmer.get_current" 3 N N N (S "snowballstemmer.basestemmer" 194) none (R 48) N 0)), #[]⟩
def o52 (x : X) : Obj := ⟨N, none, (.func (fn (st2 2 16) "BaseStemmer.replace_s" 0 N N N N none N N 0)), #[]⟩
def o53 (x : X) : Obj := ⟨(T "code"), none, (.fields #[(S "Among" 442), (S "Among" 443), (S "/claim/cut.py" 444), (I 197), (I 0), (I 0), (I 0), (I 0), (R 207), (.bool false), (I 181), (R 208), N, N, N, N, (I 445), (I 197), (S "/claim/cut.py" 446)]), #[]⟩
def o54 (x : X) : Obj := ⟨(T "code"), none, (.fields #[(S "set_current" 215), (S "BaseStemmer.set_current" 216), (S "/claim/cut.py" 217), (I 10), (I 2), (I 0), (I 0), (I 3), (R 36), (.bool true), (I 181), (R 37), N, (R 38), (R 39), (R 40), (I 220), (I 10), (S "/claim/cut.py" 221)]), #[]⟩
def o55 (x : X) : Obj := ⟨(T "tuple"), none, (.seq #[(S "self" 257), (S "s" 258)] 0), #[]⟩
def o56 (x : X) : Obj := ⟨(T "getset_descriptor"), none, (.fields #[(S "__weakref__" 433), (R 199), (B "ExceptionGroup.__weakref__"), N]), #[]⟩
def o57 (x : X) : Obj := ⟨(T "function"), none, (.func (fn (st2 2 10) "BaseStemmer.out_grouping_b" 3 N N N (S "snowballstemmer.basestemmer" 194) none (R 104) N 0)), #[]⟩
def o58 (x : X) : Obj := ⟨N, none, (.func (fn (st2 2 8) "BaseStemmer.out_grouping" 0 N N N N none N N 0)), #[]⟩
def o59 (x : X) : Obj := ⟨(T "code"), none, (.fields #[(S "slice_from" 369), (S "BaseStemmer.slice_from" 370), (S "/claim/cut.py" 371), (I 169), (I 2), (I 0), (I 0), (I 3), (R 148), (.bool true), (I 181), (R 149), N, (R 150), (R 151), (R 152), (I 374), (I 169), (S "/claim/cut.py" 375)]), #[]⟩
def o60 (x : X) : Obj := ⟨(T "function"), none, (.func (fn (st2 4 0) "Among.__init__" 3 N N N (S "snowballstemmer.among" 438) none (R 216) N 0)), #[]⟩
def o61 (x : X) : Obj := ⟨(T "tuple"), none, (.seq #[(S "self" 411), (S "word" 412)] 0), #[]⟩
def t57 (x : X) : BT := nd (o3 x) (nd (o54 x) (nd (o55 x) (lf (o3 x)) (lf (o56 x))) (nd (o57 x) (lf (o3 x)) .nil)) (nd (o3 x) (nd (o58 x) (lf (o59 x)) (lf (o60 x))) (nd (o8 x) (lf (o61 x)) .nil))
def o62 (x : X) : Obj := ⟨(T "function"), none, (.func (fn (st1 0) "_wall" 3 N N N (S "__main__" 164) none (R 20) N 0)), #[]⟩
def o63 (x : X) : Obj := ⟨(T "code"), none, (.fields #[(S "go_in_grouping" 246), (S "BaseStemmer.go_in_grouping" 247), (S "/claim/cut.py" 248), (I 27), (I 2), (I 0), (I 0), (I 3), (R 64), (.bool true), (I 181), (R 65), N, (R 66), (R 67), (R 68), (I 251), (I 27), (S "/claim/cut.py" 252)]), #[]⟩
def o64 (x : X) : Obj := ⟨(T "function"), none, (.func (fn (st2 2 14) "BaseStemmer.find_among" 3 N N N (S "snowballstemmer.basestemmer" 194) none (R 132) N 0)), #[]⟩
def o65 (x : X) : Obj := ⟨(T "tuple"), none, (.seq #[(S "bra" 424), (S "current" 425), (S "cursor" 426), (S "ket" 427), (S "limit" 428), (S "limit_backward" 429)] 0), #[]⟩
def o66 (x : X) : Obj := ⟨(T "tuple"), none, (.seq #[(S "self" 289), (S "s" 290)] 0), #[]⟩
def o67 (x : X) : Obj := ⟨(T "tuple"), none, (.seq #[(S "self" 455), (S "s" 456), (S "substring_i" 457), (S "result" 458)] 0), #[]⟩
def o68 (x : X) : Obj := ⟨N, none, (.func (fn (st2 2 12) "BaseStemmer.eq_s" 0 N N N N none N N 0)), #[]⟩
def o69 (x : X) : Obj := ⟨(T "code"), none, (.fields #[(S "assign_to" 401), (S "BaseStemmer.assign_to" 402), (S "/claim/cut.py" 403), (I 186), (I 1), (I 0), (I 0), (I 3), (R 176), (.bool true), (I 181), (R 177), N, (R 178), (R 179), (R 180), (I 405), (I 186), (S "/claim/cut.py" 406)]), #[]⟩
def o70 (x : X) : Obj := ⟨(T "tuple"), none, (.seq #[(S "self" 226)] 0), #[]⟩
def o71 (x : X) : Obj := ⟨(T "function"), none, (.func (fn (st2 2 6) "BaseStemmer.in_grouping_b" 3 N N N (S "snowballstemmer.basestemmer" 194) none (R 76) N 0)), #[]⟩
def o72 (x : X) : Obj := ⟨N, none, (.func (fn (st2 2 20) "BaseStemmer.slice_to" 0 N N N N none N N 0)), #[]⟩
def o73 (x : X) : Obj := ⟨N, none, (.func (fn (st2 2 4) "BaseStemmer.in_grouping" 0 N N N N none N N 0)), #[]⟩
def o74 (x : X) : Obj := ⟨(T "tuple"), none, (.seq #[(S "self" 380)] 0), #[]⟩
def o75 (x : X) : Obj := ⟨(T "getset_descriptor"), none, (.fields #[(S "__dict__" 466), (R 220), (B "function.__dict__"), (B "function.__dict__#set")]), #[]⟩
def o76 (x : X) : Obj := ⟨(T "code"), none, (.fields #[(S "eq_s_b" 310), (S "BaseStemmer.eq_s_b" 311), (S "/claim/cut.py" 312), (I 63), (I 2), (I 0), (I 0), (I 3), (R 120), (.bool true), (I 181), (R 121), N, (R 122), (R 123), (R 124), (I 315), (I 63), (S "/claim/cut.py" 316)]), #[]⟩
def o77 (x : X) : Obj := ⟨(T "function"), none, (.func (fn (st2 2 22) "BaseStemmer.stemWord" 3 N N N (S "snowballstemmer.basestemmer" 194) none (R 188) N 0)), #[]⟩
def t72 (x : X) : BT := nd (o3 x) (nd (o70 x) (nd (o71 x) (lf (o3 x)) (lf (o22 x))) (nd (o3 x) (lf (o72 x)) .nil)) (nd (o73 x) (nd (o8 x) (lf (o74 x)) (lf (o75 x))) (nd (o76 x) (lf (o77 x)) .nil))
def o78 (x : X) : Obj := ⟨(T "tuple"), none, (.seq #[(S "self" 419), (S "words" 420)] 0), #[]⟩
def o79 (x : X) : Obj := ⟨N, none, (.func (fn (st2 2 9) "BaseStemmer.go_out_grouping" 0 N N N N none N N 0)), #[]⟩
def o80 (x : X) : Obj := ⟨(T "code"), none, (.fields #[(S "slice_del" 377), (S "BaseStemmer.slice_del" 378), (S "/claim/cut.py" 379), (I 177), (I 1), (I 0), (I 0), (I 3), (R 155), (.bool true), (I 181), (R 156), N, (R 157), (R 158), (R 159), (I 381), (I 177), (S "/claim/cut.py" 382)]), #[]⟩
def o81 (x : X) : Obj := ⟨(T "builtin_function_or_method"), none, (.fields #[(B "object.__init_subclass__"), (R 220)]), #[]⟩
def o82 (x : X) : Obj := ⟨(T "code"), none, (.fields #[(S "get_current" 223), (S "BaseStemmer.get_current" 224), (S "/claim/cut.py" 225), (I 18), (I 1), (I 0), (I 0), (I 3), (R 43), (.bool true), (I 181), (R 44), N, (R 45), (R 46), (R 47), (I 227), (I 18), (S "/claim/cut.py" 228)]), #[]⟩
def o83 (x : X) : Obj := ⟨(T "tuple"), none, (.seq #[(S "self" 265), (S "s" 266)] 0), #[]⟩
def o84 (x : X) : Obj := ⟨N, none, (.fields #[(I 199), (I 4), (R 216)]), #[]⟩
def o85 (x : X) : Obj := ⟨(T "function"), none, (.func (fn (st2 2 11) "BaseStemmer.go_out_grouping_b" 3 N N N (S "snowballstemmer.basestemmer" 194) none (R 111) N 0)), #[]⟩
def t82 (x : X) : BT := nd (o8 x) (nd (o3 x) (nd (o3 x) (lf (o8 x)) (lf (o78 x))) (nd (o79 x) (lf (o80 x)) (lf (o81 x)))) (nd (o82 x) (nd (o83 x) (lf (o3 x)) (lf (o84 x))) (nd (o85 x) (lf (o3 x)) .nil))
def o86 (x : X) : Obj := ⟨(T "dict"), none, (.dict #[E x "__module__" 203 (S "snowballstemmer.basestemmer" 194), E x "__qualname__" 205 (S "BaseStemmer" 204), E x "__firstlineno__" 207 (.int 5 206), E x "__init__" 214 (R 35), E x "set_current" 222 (R 42), E x "get_current" 229 (R 49), E x "copy_from" 237 (R 56), E x "in_grouping" 245 (R 63), E x "go_in_grouping" 253 (R 70), E x "in_grouping_b" 261 (R 77), E x "go_in_grouping_b" 269 (R 84), E x "out_grouping" 277 (R 91), E x "go_out_grouping" 285 (R 98), E x "out_grouping_b" 293 (R 105), E x "go_out_grouping_b" 301 (R 112), E x "eq_s" 309 (R 119), E x "eq_s_b" 317 (R 126), E x "find_among" 337 (R 133), E x "find_among_b" 357 (R 140), E x "replace_s" 368 (R 147), E x "slice_from" 376 (R 154), E x "slice_del" 383 (R 161), E x "insert" 393 (R 168), E x "slice_to" 400 (R 175), E x "assign_to" 407 (R 182), E x "stemWord" 415 (R 189), E x "stemWords" 423 (R 196), E x "__static_attributes__" 430 (R 197)] 28), #[]⟩
def o87 (x : X) : Obj := ⟨N, none, (.func (fn (st2 2 1) "BaseStemmer.set_current" 0 N N N N none N N 0)), #[]⟩
def o88 (x : X) : Obj := ⟨(T "tuple"), none, (.seq #[(S "self" 341), (S "v" 342), (S "i" 343), (S "j" 344), (S "c" 345), (S "lb" 346), (S "common_i" 347), (S "common_j" 348), (S "first_key_inspected" 349), (S "k" 350), (S "diff" 351), (S "common" 352), (S "w" 353), (S "i2" 354)] 0), #[]⟩
def o89 (x : X) : Obj := ⟨(T "getset_descriptor"), none, (.fields #[(S "__dict__" 431), (R 199), (B "function.__dict__"), (B "function.__dict__#set")]), #[]⟩
def o90 (x : X) : Obj := ⟨(T "code"), none, (.fields #[(S "out_grouping_b" 286), (S "BaseStemmer.out_grouping_b" 287), (S "/claim/cut.py" 288), (I 47), (I 2), (I 0), (I 0), (I 3), (R 99), (.bool true), (I 181), (R 100), N, (R 101), (R 102), (R 103), (I 291), (I 47), (S "/claim/cut.py" 292)]), #[]⟩
def o91 (x : X) : Obj := ⟨(T "function"), none, (.func (fn (st2 2 19) "BaseStemmer.insert" 3 N N N (S "snowballstemmer.basestemmer" 194) none (R 167) N 0)), #[]⟩
def o92 (x : X) : Obj := ⟨(T "function"), none, (.func (fn (st2 2 3) "BaseStemmer.copy_from" 3 N N N (S "snowballstemmer.basestemmer" 194) none (R 55) N 0)), #[]⟩
def o93 (x : X) : Obj := ⟨N, none, (.func (fn (st2 2 17) "BaseStemmer.slice_from" 0 N N N N none N N 0)), #[]⟩
def o94 (x : X) : Obj := ⟨(T "code"), none, (.fields #[(S "__init__" 452), (S "Among.__init__" 453), (S "/claim/cut.py" 454), (I 199), (I 4), (I 0), (I 0), (I 3), (R 211), (.bool true), (I 181), (R 212), N, (R 213), (R 214), (R 215), (I 459), (I 199), (S "/claim/cut.py" 460)]), #[]⟩
def t89 (x : X) : BT := nd (o8 x) (t82 x) (nd (o86 x) (nd (o87 x) (nd (o8 x) (lf (o88 x)) (lf (o89 x))) (nd (o90 x) (lf (o91 x)) .nil)) (nd (o92 x) (nd (o3 x) (lf (o93 x)) (lf (o94 x))) (nd (o3 x) (lf (o8 x)) .nil)))
def o96 (x : X) : Obj := ⟨(T "code"), none, (.fields #[(S "_wall" 187), (S "_wall" 188), (S "/claim/cut.py" 189), (I 1), (I 1), (I 0), (I 0), (I 3), (R 15), (.bool true), (I 181), (R 16), N, (R 17), (R 18), (R 19), (I 191), (I 1), (S "/claim/cut.py" 192)]), #[]⟩
def o97 (x : X) : Obj := ⟨N, none, (.func (fn (st2 2 5) "BaseStemmer.go_in_grouping" 0 N N N N none N N 0)), #[]⟩
def o98 (x : X) : Obj := ⟨(T "code"), none, (.fields #[(S "find_among" 318), (S "BaseStemmer.find_among" 319), (S "/claim/cut.py" 320), (I 69), (I 2), (I 0), (I 0), (I 3), (R 127), (.bool true), (I 181), (R 128), N, (R 129), (R 130), (R 131), (I 335), (I 69), (S "/claim/cut.py" 336)]), #[]⟩
def o99 (x : X) : Obj := ⟨(T "function"), none, (.func (fn (st2 2 23) "BaseStemmer.stemWords" 3 N N N (S "snowballstemmer.basestemmer" 194) none (R 195) N 0)), #[]⟩
def o100 (x : X) : Obj := ⟨(T "tuple"), none, (.seq #[(S "self" 387), (S "c_bra" 388), (S "c_ket" 389), (S "s" 390)] 0), #[]⟩
def o101 (x : X) : Obj := ⟨(T "tuple"), none, (.seq #[(S "self" 233), (S "other" 234)] 0), #[]⟩
def o102 (x : X) : Obj := ⟨(T "function"), none, (.func (fn (st2 2 7) "BaseStemmer.go_in_grouping_b" 3 N N N (S "snowballstemmer.basestemmer" 194) none (R 83) N 0)), #[]⟩
def o103 (x : X) : Obj := ⟨N, none, (.func (fn (st2 2 21) "BaseStemmer.assign_to" 0 N N N N none N N 0)), #[]⟩
def o104 (x : X) : Obj := ⟨(T "frame"), none, .plain, #[(some (R 27)), (some (R 3)), (some (R 24)), none, (some (S "snowballstemmer.basestemmer" 194)), none, (some (R 0))]⟩
def o105 (x : X) : Obj := ⟨(T "code"), none, (.fields #[(S "in_grouping_b" 254), (S "BaseStemmer.in_grouping_b" 255), (S "/claim/cut.py" 256), (I 30), (I 2), (I 0), (I 0), (I 3), (R 71), (.bool true), (I 181), (R 72), N, (R 73), (R 74), (R 75), (I 259), (I 30), (S "/claim/cut.py" 260)]), #[]⟩
def o106 (x : X) : Obj := ⟨(T "function"), none, (.func (fn (st2 2 15) "BaseStemmer.find_among_b" 3 N N N (S "snowballstemmer.basestemmer" 194) none (R 139) N 0)), #[]⟩
def o107 (x : X) : Obj := ⟨(T "tuple"), none, (.seq #[(S "self" 297), (S "s" 298)] 0), #[]⟩
def o108 (x : X) : Obj := ⟨(T "type"), none, (.cls { name := "Among", bases := [(T "object")], mro := [(R 220), (T "object")], ns := 219, qualname := "Among", hasDict := true, slotNames := [], subclasses := [], abstract := false, collection := none, hasDel := false }), #[none, none, (some (S "Among" 440)), (some (S "Among" 448)), (some (B "object.__new__")), (some (.bool true))]⟩
def o109 (x : X) : Obj := ⟨N, none, (.func (fn (st2 2 13) "BaseStemmer.eq_s_b" 0 N N N N none N N 0)), #[]⟩
def o110 (x : X) : Obj := ⟨(T "code"), none, (.fields #[(S "stemWord" 408), (S "BaseStemmer.stemWord" 409), (S "/claim/cut.py" 410), (I 189), (I 2), (I 0), (I 0), (I 3), (R 183), (.bool true), (I 181), (R 184), N, (R 185), (R 186), (R 187), (I 413), (I 189), (S "/claim/cut.py" 414)]), #[]⟩
def t103 (x : X) : BT := nd (o104 x) (nd (o8 x) (nd (o105 x) (lf (o106 x)) (lf (o3 x))) (nd (o107 x) (lf (o3 x)) .nil)) (nd (o3 x) (nd (o3 x) (lf (o8 x)) (lf (o108 x))) (nd (o109 x) (lf (o110 x)) .nil))
def o111 (x : X) : Obj := ⟨(T "code"), none, (.fields #[(S "__init__" 208), (S "BaseStemmer.__init__" 209), (S "/claim/cut.py" 210), (I 7), (I 1), (I 0), (I 0), (I 3), (R 29), (.bool true), (I 181), (R 30), N, (R 31), (R 32), (R 33), (I 212), (I 7), (S "/claim/cut.py" 213)]), #[]⟩
def o112 (x : X) : Obj := ⟨(T "tuple"), none, (.seq #[(S "self" 249), (S "s" 250)] 0), #[]⟩
def o113 (x : X) : Obj := ⟨N, none, (.func (fn (st2 2 23) "BaseStemmer.stemWords" 0 N N N N none N N 0)), #[]⟩
def o114 (x : X) : Obj := ⟨(T "function"), none, (.func (fn (st2 2 9) "BaseStemmer.go_out_grouping" 3 N N N (S "snowballstemmer.basestemmer" 194) none (R 97) N 0)), #[]⟩
def o115 (x : X) : Obj := ⟨N, none, (.func (fn (st2 2 7) "BaseStemmer.go_in_grouping_b" 0 N N N N none N N 0)), #[]⟩
def o116 (x : X) : Obj := ⟨(T "code"), none, (.fields #[(S "replace_s" 358), (S "BaseStemmer.replace_s" 359), (S "/claim/cut.py" 360), (I 159), (I 4), (I 0), (I 0), (I 3), (R 141), (.bool true), (I 181), (R 142), N, (R 143), (R 144), (R 145), (I 366), (I 159), (S "/claim/cut.py" 367)]), #[]⟩
def o117 (x : X) : Obj := ⟨(T "frame"), none, .plain, #[(some (R 209)), (some (R 3)), (some (R 206)), none, (some (S "snowballstemmer.among" 438)), none, (some (R 0))]⟩
def o118 (x : X) : Obj := ⟨(T "tuple"), none, (.seq #[(S "self" 404)] 0), #[]⟩
def o119 (x : X) : Obj := ⟨N, none, (.fields #[(I 7), (I 4), (R 34), (I 10), (I 4), (R 41), (I 18), (I 4), (R 48), (I 21), (I 4), (R 55), (I 24), (I 4), (R 62), (I 27), (I 4), (R 69), (I 30), (I 4), (R 76), (I 38), (I 4), (R 83), (I 41), (I 4), (R 90), (I 44), (I 4), (R 97), (I 47), (I 4), (R 104), (I 50), (I 4), (R 111), (I 57), (I 4), (R 118), (I 63), (I 4), (R 125), (I 69), (I 4), (R 132), (I 114), (I 4), (R 139), (I 159), (I 4), (R 146), (I 169), (I 4), (R 153), (I 177), (I 4), (R 160), (I 180), (I 4), (R 167), (I 183), (I 4), (R 174), (I 186), (I 4), (R 181), (I 189), (I 4), (R 188), (I 194), (I 4), (R 195)]), #[]⟩
def o120 (x : X) : Obj := ⟨(T "function"), none, (.func (fn (st2 2 1) "BaseStemmer.set_current" 3 N N N (S "snowballstemmer.basestemmer" 194) none (R 41) N 0)), #[]⟩
def o121 (x : X) : Obj := ⟨N, none, (.func (fn (st2 2 15) "BaseStemmer.find_among_b" 0 N N N N none N N 0)), #[]⟩
def o122 (x : X) : Obj := ⟨(T "super"), none, (.fields #[(R 199), (R 199), (R 199)]), #[]⟩
def o123 (x : X) : Obj := ⟨(T "code"), none, (.fields #[(S "out_grouping" 270), (S "BaseStemmer.out_grouping" 271), (S "/claim/cut.py" 272), (I 41), (I 2), (I 0), (I 0), (I 3), (R 85), (.bool true), (I 181), (R 86), N, (R 87), (R 88), (R 89), (I 275), (I 41), (S "/claim/cut.py" 276)]), #[]⟩
def o124 (x : X) : Obj := ⟨(T "function"), none, (.func (fn (st2 2 17) "BaseStemmer.slice_from" 3 N N N (S "snowballstemmer.basestemmer" 194) none (R 153) N 0)), #[]⟩
def o125 (x : X) : Obj := ⟨(T "tuple"), none, (.seq #[(S "result" 462), (S "s" 463), (S "substring_i" 464)] 0), #[]⟩
def o126 (x : X) : Obj := ⟨(T "tuple"), none, (.seq #[(S "self" 313), (S "s" 314)] 0), #[]⟩
def t118 (x : X) : BT := nd (o119 x) (nd (o120 x) (nd (o3 x) (lf (o121 x)) (lf (o122 x))) (nd (o3 x) (lf (o8 x)) .nil)) (nd (o8 x) (nd (o123 x) (lf (o124 x)) (lf (o125 x))) (nd (o126 x) (lf (o3 x)) .nil))
def o127 (x : X) : Obj := ⟨(T "tuple"), none, (.seq #[(S "self" 218), (S "value" 219)] 0), #[]⟩
def o128 (x : X) : Obj := ⟨(T "function"), none, (.func (fn (st2 2 5) "BaseStemmer.go_in_grouping" 3 N N N (S "snowballstemmer.basestemmer" 194) none (R 69) N 0)), #[]⟩
def o129 (x : X) : Obj := ⟨(T "dict"), none, (.dict #[E x "__module__" 203 (S "snowballstemmer.basestemmer" 194), E x "__firstlineno__" 207 (.int 5 206), E x "__init__" 214 (R 35), E x "set_current" 222 (R 42), E x "get_current" 229 (R 49), E x "copy_from" 237 (R 56), E x "in_grouping" 245 (R 63), E x "go_in_grouping" 253 (R 70), E x "in_grouping_b" 261 (R 77), E x "go_in_grouping_b" 269 (R 84), E x "out_grouping" 277 (R 91), E x "go_out_grouping" 285 (R 98), E x "out_grouping_b" 293 (R 105), E x "go_out_grouping_b" 301 (R 112), E x "eq_s" 309 (R 119), E x "eq_s_b" 317 (R 126), E x "find_among" 337 (R 133), E x "find_among_b" 357 (R 140), E x "replace_s" 368 (R 147), E x "slice_from" 376 (R 154), E x "slice_del" 383 (R 161), E x "insert" 393 (R 168), E x "slice_to" 400 (R 175), E x "assign_to" 407 (R 182), E x "stemWord" 415 (R 189), E x "stemWords" 423 (R 196), E x "__static_attributes__" 430 (R 197), E x "__dict__" 432 (R 200), E x "__weakref__" 434 (R 201), E x "__doc__" 435 N] 4), #[]⟩
def o130 (x : X) : Obj := ⟨N, none, (.func (fn (st2 2 19) "BaseStemmer.insert" 0 N N N N none N N 0)), #[]⟩
def o131 (x : X) : Obj := ⟨N, none, (.func (fn (st2 2 3) "BaseStemmer.copy_from" 0 N N N N none N N 0)), #[]⟩
def o132 (x : X) : Obj := ⟨(T "tuple"), none, (.seq #[(S "self" 372), (S "s" 373)] 0), #[]⟩
def o133 (x : X) : Obj := ⟨(T "code"), none, (.fields #[(S "eq_s" 302), (S "BaseStemmer.eq_s" 303), (S "/claim/cut.py" 304), (I 57), (I 2), (I 0), (I 0), (I 3), (R 113), (.bool true), (I 181), (R 114), N, (R 115), (R 116), (R 117), (I 307), (I 57), (S "/claim/cut.py" 308)]), #[]⟩
def o134 (x : X) : Obj := ⟨(T "function"), none, (.func (fn (st2 2 21) "BaseStemmer.assign_to" 3 N N N (S "snowballstemmer.basestemmer" 194) none (R 181) N 0)), #[]⟩
def o135 (x : X) : Obj := ⟨(T "dict"), none, (.dict #[E x "__module__" 447 (S "snowballstemmer.among" 438), E x "__qualname__" 449 (S "Among" 448), E x "__firstlineno__" 451 (.int 197 450), E x "__init__" 461 (R 217), E x "__static_attributes__" 465 (R 218)] 5), #[]⟩
def o136 (x : X) : Obj := ⟨N, none, (.func (fn (st2 2 11) "BaseStemmer.go_out_grouping_b" 0 N N N N none N N 0)), #[]⟩
def o137 (x : X) : Obj := ⟨(T "code"), none, (.fields #[(S "slice_to" 394), (S "BaseStemmer.slice_to" 395), (S "/claim/cut.py" 396), (I 183), (I 1), (I 0), (I 0), (I 3), (R 169), (.bool true), (I 181), (R 170), N, (R 171), (R 172), (R 173), (I 398), (I 183), (S "/claim/cut.py" 399)]), #[]⟩
def o138 (x : X) : Obj := ⟨(T "code"), none, (.fields #[(S "in_grouping" 238), (S "BaseStemmer.in_grouping" 239), (S "/claim/cut.py" 240), (I 24), (I 2), (I 0), (I 0), (I 3), (R 57), (.bool true), (I 181), (R 58), N, (R 59), (R 60), (R 61), (I 243), (I 24), (S "/claim/cut.py" 244)]), #[]⟩
def o139 (x : X) : Obj := ⟨(T "tuple"), none, (.seq #[(S "self" 281), (S "s" 282)] 0), #[]⟩
def o140 (x : X) : Obj := ⟨(T "getset_descriptor"), none, (.fields #[(S "__weakref__" 468), (R 220), (B "ExceptionGroup.__weakref__"), N]), #[]⟩
def o141 (x : X) : Obj := ⟨(T "function"), none, (.func (fn (st2 2 13) "BaseStemmer.eq_s_b" 3 N N N (S "snowballstemmer.basestemmer" 194) none (R 125) N 0)), #[]⟩
def t133 (x : X) : BT := nd (o8 x) (nd (o3 x) (nd (o3 x) (lf (o8 x)) (lf (o135 x))) (nd (o136 x) (lf (o137 x)) .nil)) (nd (o138 x) (nd (o139 x) (lf (o3 x)) (lf (o140 x))) (nd (o141 x) (lf (o3 x)) .nil))
def t137 (x : X) : BT := nd (o0 x) (nd (o1 x) (nd (o13 x) (nd (o3 x) (t20 x) (nd (o22 x) (nd (o3 x) (nd (o3 x) (lf (o8 x)) (lf (o23 x))) (nd (o24 x) (lf (o25 x)) .nil)) (nd (o26 x) (nd (o27 x) (lf (o3 x)) (lf (o28 x))) (nd (o29 x) (lf (o3 x)) .nil)))) (nd (o3 x) (nd (o30 x) (nd (o31 x) (t29 x) (nd (o3 x) (lf (o8 x)) .nil)) (t34 x)) (t42 x))) (nd (o4 x) (nd (o5 x) (nd (o46 x) (nd (o47 x) (nd (o8 x) (lf (o48 x)) (lf (o3 x))) (nd (o49 x) (lf (o50 x)) .nil)) (nd (o51 x) (nd (o3 x) (lf (o52 x)) (lf (o53 x))) (nd (o3 x) (lf (o8 x)) .nil))) (t57 x)) (nd (o11 x) (nd (o62 x) (nd (o8 x) (nd (o63 x) (lf (o64 x)) (lf (o65 x))) (nd (o66 x) (lf (o3 x)) .nil)) (nd (o3 x) (nd (o3 x) (lf (o8 x)) (lf (o67 x))) (nd (o68 x) (lf (o69 x)) .nil))) (t72 x)))) (nd (o6 x) (nd (o7 x) (t89 x) (nd (⟨N, none, (.fields #[(I 1), (I 0), (R 20), (I 5), (I 0), (R 27), (I 197), (I 0), (R 209)]), #[]⟩) (nd (o96 x) (nd (o3 x) (nd (o97 x) (lf (o98 x)) (lf (o99 x))) (nd (o8 x) (lf (o100 x)) .nil)) (nd (o101 x) (nd (o102 x) (lf (o3 x)) (lf (o8 x))) (nd (o3 x) (lf (o103 x)) .nil))) (t103 x))) (nd (o9 x) (nd (o10 x) (nd (o3 x) (nd (o111 x) (nd (o112 x) (lf (o3 x)) (lf (o113 x))) (nd (o114 x) (lf (o3 x)) .nil)) (nd (o3 x) (nd (o115 x) (lf (o116 x)) (lf (o117 x))) (nd (o8 x) (lf (o118 x)) .nil))) (t118 x)) (nd (o12 x) (nd (o3 x) (nd (o127 x) (nd (o128 x) (lf (o3 x)) (lf (o129 x))) (nd (o3 x) (lf (o130 x)) .nil)) (nd (o131 x) (nd (o8 x) (lf (o132 x)) (lf (o3 x))) (nd (o133 x) (lf (o134 x)) .nil))) (t133 x))))
def sTop5 (w : World) (v d : Obj) (os : OsState) : SharedT := ⟨(t137 ⟨w.params, v, d⟩), 225, {}, #[], {}, 475, os⟩
def o142 (x : X) : Obj := ⟨(T "frame"), none, .plain, #[(some (R 230)), (some (R 3)), (some (R 227)), none, (some (S "snowballstemmer.esperanto_stemmer" 473)), none, (some (R 0))]⟩
def t141 (x : X) : BT := nd (o3 x) (t20 x) (nd (o22 x) (nd (o3 x) (nd (o3 x) (lf (o8 x)) (lf (o23 x))) (nd (o24 x) (lf (o25 x)) (lf (o142 x)))) (nd (o26 x) (nd (o27 x) (lf (o3 x)) (lf (o28 x))) (nd (o29 x) (lf (o3 x)) .nil)))
def o144 (x : X) : Obj := ⟨(T "tuple"), none, (.seq #[(R 199)] 0), #[]⟩
def t149 (x : X) : BT := nd (o46 x) (nd (o47 x) (nd (o8 x) (lf (o48 x)) (lf (o3 x))) (nd (o49 x) (lf (o50 x)) (lf (o144 x)))) (nd (o51 x) (nd (o3 x) (lf (o52 x)) (lf (o53 x))) (nd (o3 x) (lf (o8 x)) .nil))
def t154 (x : X) : BT := nd (o11 x) (nd (o62 x) (nd (o8 x) (nd (o63 x) (lf (o64 x)) (lf (o65 x))) (nd (o66 x) (lf (o3 x)) (lf (o8 x)))) (nd (o3 x) (nd (o3 x) (lf (o8 x)) (lf (o67 x))) (nd (o68 x) (lf (o69 x)) .nil))) (t72 x)
def t156 (x : X) : BT := nd (o1 x) (nd (o13 x) (t141 x) (nd (o3 x) (nd (o30 x) (nd (o31 x) (t29 x) (nd (o3 x) (lf (o8 x)) (lf (⟨(T "dict"), none, (.dict #[E x "__module__" 482 (S "snowballstemmer.esperanto_stemmer" 473), E x "__qualname__" 484 (S "EsperantoStemmer" 483), E x "__firstlineno__" 486 (.int 204 485)] 3), #[]⟩)))) (t34 x)) (t42 x))) (nd (o4 x) (nd (o5 x) (t149 x) (t57 x)) (t154 x))
def o145 (x : X) : Obj := ⟨N, none, (.fields #[(I 1), (I 0), (R 20), (I 5), (I 0), (R 27), (I 197), (I 0), (R 209), (I 204), (I 0), (R 230)]), #[]⟩
def t160 (x : X) : BT := nd (o145 x) (nd (o96 x) (nd (o3 x) (nd (o97 x) (lf (o98 x)) (lf (o99 x))) (nd (o8 x) (lf (o100 x)) (lf (o3 x)))) (nd (o101 x) (nd (o102 x) (lf (o3 x)) (lf (o8 x))) (nd (o3 x) (lf (o103 x)) .nil))) (t103 x)
def o146 (x : X) : Obj := ⟨(T "code"), none, (.fields #[(S "EsperantoStemmer" 477), (S "EsperantoStemmer" 478), (S "/claim/cut.py" 479), (I 204), (I 0), (I 0), (I 0), (I 0), (R 228), (.bool false), (I 181), (R 229), N, N, N, N, (I 480), (I 204), (S "/claim/cut.py" 481)]), #[]⟩
def t170 (x : X) : BT := nd (o9 x) (nd (o10 x) (nd (o3 x) (nd (o111 x) (nd (o112 x) (lf (o3 x)) (lf (o113 x))) (nd (o114 x) (lf (o3 x)) (lf (o22 x)))) (nd (o3 x) (nd (o115 x) (lf (o116 x)) (lf (o117 x))) (nd (o8 x) (lf (o118 x)) .nil))) (t118 x)) (nd (o12 x) (nd (o3 x) (nd (o127 x) (nd (o128 x) (lf (o3 x)) (lf (o129 x))) (nd (o3 x) (lf (o130 x)) (lf (o146 x)))) (nd (o131 x) (nd (o8 x) (lf (o132 x)) (lf (o3 x))) (nd (o133 x) (lf (o134 x)) .nil))) (t133 x))
def t172 (x : X) : BT := nd (o0 x) (t156 x) (nd (o6 x) (nd (o7 x) (t89 x) (t160 x)) (t170 x))
def sA (w : World) (v d : Obj) (os : OsState) : SharedT := ⟨(t172 ⟨w.params, v, d⟩), 232, {}, #[], {}, 487, os⟩
def t178 (x : X) : BT := nd (o6 x) (nd (o7 x) (nd (o8 x) (t82 x) (nd (o86 x) (nd (o87 x) (nd (o8 x) (lf (o88 x)) (lf (o89 x))) (nd (o90 x) (lf (o91 x)) (lf x.v))) (nd (o92 x) (nd (o3 x) (lf (o93 x)) (lf (o94 x))) (nd (o3 x) (lf (o8 x)) .nil)))) (t160 x)) (t170 x)
def t179 (x : X) : BT := nd (o0 x) (t156 x) (t178 x)
def sV (w : World) (v d : Obj) (os : OsState) : SharedT := ⟨(t179 ⟨w.params, v, d⟩), 233, {}, #[], {}, 497, os⟩
def t186 (x : X) : BT := nd (o0 x) (nd (o1 x) (nd (o13 x) (t141 x) (nd (o3 x) (nd (o30 x) (nd (o31 x) (t29 x) (nd (o3 x) (lf (o8 x)) (lf (⟨(T "dict"), none, (.dict #[E x "__module__" 482 (S "snowballstemmer.esperanto_stemmer" 473), E x "__qualname__" 484 (S "EsperantoStemmer" 483), E x "__firstlineno__" 486 (.int 204 485), E x "g_vowel" 497 (R 232)] 4), #[]⟩)))) (t34 x)) (t42 x))) (nd (o4 x) (nd (o5 x) (t149 x) (t57 x)) (t154 x))) (t178 x)
def sC0 (w : World) (v d : Obj) (os : OsState) : SharedT := ⟨(t186 ⟨w.params, v, d⟩), 233, {}, #[], {}, 498, os⟩
def t191 (x : X) : BT := nd (o13 x) (t141 x) (nd (o3 x) (nd (o30 x) (nd (o31 x) (t29 x) (nd (o3 x) (lf (o8 x)) (lf (⟨(T "dict"), none, (.dict #[E x "__module__" 482 (S "snowballstemmer.esperanto_stemmer" 473), E x "__qualname__" 484 (S "EsperantoStemmer" 483), E x "__firstlineno__" 486 (.int 204 485), E x "g_vowel" 497 (R 232), E x "g_aou" 499 (S "aou" 498)] 5), #[]⟩)))) (t34 x)) (t42 x))
def t193 (x : X) : BT := nd (o0 x) (nd (o1 x) (t191 x) (nd (o4 x) (nd (o5 x) (t149 x) (t57 x)) (t154 x))) (t178 x)
def sC1 (w : World) (v d : Obj) (os : OsState) : SharedT := ⟨(t193 ⟨w.params, v, d⟩), 233, {}, #[], {}, 500, os⟩
def t198 (x : X) : BT := nd (o4 x) (nd (o5 x) (t149 x) (nd (o3 x) (nd (o54 x) (nd (o55 x) (lf (o3 x)) (lf (o56 x))) (nd (o57 x) (lf (o3 x)) (lf x.d))) (nd (o3 x) (nd (o58 x) (lf (o59 x)) (lf (o60 x))) (nd (o8 x) (lf (o61 x)) .nil)))) (t154 x)
def t200 (x : X) : BT := nd (o0 x) (nd (o1 x) (t191 x) (t198 x)) (t178 x)
def sD (w : World) (v d : Obj) (os : OsState) : SharedT := ⟨(t200 ⟨w.params, v, d⟩), 234, {}, #[], {}, 520, os⟩
def t207 (x : X) : BT := nd (o0 x) (nd (o1 x) (nd (o13 x) (t141 x) (nd (o3 x) (nd (o30 x) (nd (o31 x) (t29 x) (nd (o3 x) (lf (o8 x)) (lf (⟨(T "dict"), none, (.dict #[E x "__module__" 482 (S "snowballstemmer.esperanto_stemmer" 473), E x "__qualname__" 484 (S "EsperantoStemmer" 483), E x "__firstlineno__" 486 (.int 204 485), E x "g_vowel" 497 (R 232), E x "g_aou" 499 (S "aou" 498), E x "g_digit" 520 (R 233)] 6), #[]⟩)))) (t34 x)) (t42 x))) (t198 x)) (t178 x)
def sC2 (w : World) (v d : Obj) (os : OsState) : SharedT := ⟨(t207 ⟨w.params, v, d⟩), 234, {}, #[], {}, 521, os⟩
def t208 (x : X) : BT := nd (o3 x) (lf (o3 x)) .nil
def o150 (x : X) : Obj := ⟨N, none, (.func (fn (st2 6 10) "EsperantoStemmer.r_correlative" 0 N N N N none N N 0)), #[]⟩
def o151 (x : X) : Obj := ⟨(T "tuple"), none, (.seq #[(S "self" 566)] 0), #[]⟩
def o152 (x : X) : Obj := ⟨(T "function"), none, (.func (fn (st2 6 12) "EsperantoStemmer.r_standard_suffix" 3 N N N (S "snowballstemmer.esperanto_stemmer" 473) none (R 302) N 0)), #[]⟩
def o153 (x : X) : Obj := ⟨(T "code"), none, (.fields #[(S "r_canonical_form" 521), (S "EsperantoStemmer.r_canonical_form" 522), (S "/claim/cut.py" 523), (I 209), (I 1), (I 0), (I 0), (I 3), (R 234), (.bool true), (I 181), (R 235), N, (R 236), (R 237), (R 238), (I 528), (I 209), (S "/claim/cut.py" 529)]), #[]⟩
def t219 (x : X) : BT := nd (o8 x) (lf (o8 x)) .nil
def o154 (x : X) : Obj := ⟨(T "code"), none, (.fields #[(S "r_long_word" 590), (S "EsperantoStemmer.r_long_word" 591), (S "/claim/cut.py" 592), (I 477), (I 1), (I 0), (I 0), (I 3), (R 290), (.bool true), (I 181), (R 291), N, (R 292), (R 293), (R 294), (I 596), (I 477), (S "/claim/cut.py" 597)]), #[]⟩
def o155 (x : X) : Obj := ⟨(T "function"), none, (.func (fn (st2 6 4) "EsperantoStemmer.r_initial_apostrophe" 3 N N N (S "snowballstemmer.esperanto_stemmer" 473) none (R 246) N 0)), #[]⟩
def o156 (x : X) : Obj := ⟨N, none, (.func (fn (st2 6 6) "EsperantoStemmer.r_final_apostrophe" 0 N N N N none N N 0)), #[]⟩
def o158 (x : X) : Obj := ⟨(T "function"), none, (.func (fn (st2 6 8) "EsperantoStemmer.r_uninflected" 3 N N N (S "snowballstemmer.esperanto_stemmer" 473) none (R 274) N 0)), #[]⟩
def o159 (x : X) : Obj := ⟨(T "tuple"), none, (.seq #[(S "self" 534)] 0), #[]⟩
def o160 (x : X) : Obj := ⟨(T "code"), none, (.fields #[(S "r_ujn_suffix" 554), (S "EsperantoStemmer.r_ujn_suffix" 555), (S "/claim/cut.py" 556), (I 353), (I 1), (I 0), (I 0), (I 3), (R 262), (.bool true), (I 181), (R 263), N, (R 264), (R 265), (R 266), (I 560), (I 353), (S "/claim/cut.py" 561)]), #[]⟩
def o161 (x : X) : Obj := ⟨(T "tuple"), none, (.seq #[(S "self" 602), (S "among_var" 603), (S "v_1" 604), (S "v_2" 605)] 0), #[]⟩
def o162 (x : X) : Obj := ⟨(T "tuple"), none, (.seq #[(S "self" 549), (S "v_1" 550)] 0), #[]⟩
def o163 (x : X) : Obj := ⟨(T "function"), none, (.func (fn (st2 6 10) "EsperantoStemmer.r_correlative" 3 N N N (S "snowballstemmer.esperanto_stemmer" 473) none (R 288) N 0)), #[]⟩
def o164 (x : X) : Obj := ⟨N, none, (.func (fn (st2 6 8) "EsperantoStemmer.r_uninflected" 0 N N N N none N N 0)), #[]⟩
def o165 (x : X) : Obj := ⟨(T "code"), none, (.fields #[(S "r_merged_numeral" 570), (S "EsperantoStemmer.r_merged_numeral" 571), (S "/claim/cut.py" 572), (I 404), (I 1), (I 0), (I 0), (I 3), (R 276), (.bool true), (I 181), (R 277), N, (R 278), (R 279), (R 280), (I 574), (I 404), (S "/claim/cut.py" 575)]), #[]⟩
def o166 (x : X) : Obj := ⟨(T "function"), none, (.func (fn (st2 6 6) "EsperantoStemmer.r_final_apostrophe" 3 N N N (S "snowballstemmer.esperanto_stemmer" 473) none (R 260) N 0)), #[]⟩
def o167 (x : X) : Obj := ⟨N, none, (.fields #[(I 209), (I 4), (R 239), (I 259), (I 4), (R 246), (I 274), (I 4), (R 253), (I 301), (I 4), (R 260), (I 353), (I 4), (R 267), (I 388), (I 4), (R 274), (I 404), (I 4), (R 281), (I 409), (I 4), (R 288), (I 477), (I 4), (R 295), (I 514), (I 4), (R 302), (I 545), (I 4), (R 309)]), #[]⟩
def o168 (x : X) : Obj := ⟨(T "code"), none, (.fields #[(S "_stem" 609), (S "EsperantoStemmer._stem" 610), (S "/claim/cut.py" 611), (I 545), (I 1), (I 0), (I 0), (I 3), (R 304), (.bool true), (I 181), (R 305), N, (R 306), (R 307), (R 308), (I 622), (I 545), (S "/claim/cut.py" 623)]), #[]⟩
def o169 (x : X) : Obj := ⟨N, none, (.func (fn (st2 6 4) "EsperantoStemmer.r_initial_apostrophe" 0 N N N N none N N 0)), #[]⟩
def o170 (x : X) : Obj := ⟨N, none, (.func (fn (st2 6 12) "EsperantoStemmer.r_standard_suffix" 0 N N N N none N N 0)), #[]⟩
def o171 (x : X) : Obj := ⟨(T "tuple"), none, (.seq #[(S "self" 580), (S "v_1" 581), (S "v_2" 582), (S "v_3" 583), (S "v_4" 584), (S "v_5" 585), (S "v_6" 586)] 0), #[]⟩
def o172 (x : X) : Obj := ⟨(T "code"), none, (.fields #[(S "r_pronoun" 538), (S "EsperantoStemmer.r_pronoun" 539), (S "/claim/cut.py" 540), (I 274), (I 1), (I 0), (I 0), (I 3), (R 248), (.bool true), (I 181), (R 249), N, (R 250), (R 251), (R 252), (I 543), (I 274), (S "/claim/cut.py" 544)]), #[]⟩
def o173 (x : X) : Obj := ⟨(T "code"), none, (.fields #[(S "r_correlative" 577), (S "EsperantoStemmer.r_correlative" 578), (S "/claim/cut.py" 579), (I 409), (I 1), (I 0), (I 0), (I 3), (R 283), (.bool true), (I 181), (R 284), N, (R 285), (R 286), (R 287), (I 587), (I 409), (S "/claim/cut.py" 588)]), #[]⟩
def o174 (x : X) : Obj := ⟨(T "function"), none, (.func (fn (st2 6 3) "EsperantoStemmer.r_canonical_form" 3 N N N (S "snowballstemmer.esperanto_stemmer" 473) none (R 239) N 0)), #[]⟩
def o175 (x : X) : Obj := ⟨(T "tuple"), none, (.seq #[(S "self" 557), (S "v_1" 558), (S "v_2" 559)] 0), #[]⟩
def o176 (x : X) : Obj := ⟨(T "function"), none, (.func (fn (st2 6 11) "EsperantoStemmer.r_long_word" 3 N N N (S "snowballstemmer.esperanto_stemmer" 473) none (R 295) N 0)), #[]⟩
def o177 (x : X) : Obj := ⟨N, none, (.func (fn (st2 6 9) "EsperantoStemmer.r_merged_numeral" 0 N N N N none N N 0)), #[]⟩
def o178 (x : X) : Obj := ⟨(T "code"), none, (.fields #[(S "r_final_apostrophe" 546), (S "EsperantoStemmer.r_final_apostrophe" 547), (S "/claim/cut.py" 548), (I 301), (I 1), (I 0), (I 0), (I 3), (R 255), (.bool true), (I 181), (R 256), N, (R 257), (R 258), (R 259), (I 551), (I 301), (S "/claim/cut.py" 552)]), #[]⟩
def o179 (x : X) : Obj := ⟨(T "tuple"), none, (.seq #[(S "self" 593), (S "v_1" 594), (S "_" 595)] 0), #[]⟩
def o180 (x : X) : Obj := ⟨N, none, (.func (fn (st2 6 13) "EsperantoStemmer._stem" 0 N N N N none N N 0)), #[]⟩
def o181 (x : X) : Obj := ⟨(T "function"), none, (.func (fn (st2 6 7) "EsperantoStemmer.r_ujn_suffix" 3 N N N (S "snowballstemmer.esperanto_stemmer" 473) none (R 267) N 0)), #[]⟩
def o182 (x : X) : Obj := ⟨(T "tuple"), none, (.seq #[(S "self" 524), (S "B_foreign" 525), (S "v_1" 526), (S "among_var" 527)] 0), #[]⟩
def o183 (x : X) : Obj := ⟨N, none, (.func (fn (st2 6 5) "EsperantoStemmer.r_pronoun" 0 N N N N none N N 0)), #[]⟩
def o184 (x : X) : Obj := ⟨(T "code"), none, (.fields #[(S "r_uninflected" 563), (S "EsperantoStemmer.r_uninflected" 564), (S "/claim/cut.py" 565), (I 388), (I 1), (I 0), (I 0), (I 3), (R 269), (.bool true), (I 181), (R 270), N, (R 271), (R 272), (R 273), (I 567), (I 388), (S "/claim/cut.py" 568)]), #[]⟩
def o185 (x : X) : Obj := ⟨(T "tuple"), none, (.seq #[(S "self" 612), (S "v_1" 613), (S "v_2" 614), (S "v_3" 615), (S "v_4" 616), (S "v_5" 617), (S "v_6" 618), (S "v_7" 619), (S "v_8" 620), (S "v_9" 621)] 0), #[]⟩
def o186 (x : X) : Obj := ⟨N, none, (.func (fn (st2 6 7) "EsperantoStemmer.r_ujn_suffix" 0 N N N N none N N 0)), #[]⟩
def o187 (x : X) : Obj := ⟨(T "function"), none, (.func (fn (st2 6 9) "EsperantoStemmer.r_merged_numeral" 3 N N N (S "snowballstemmer.esperanto_stemmer" 473) none (R 281) N 0)), #[]⟩
def o188 (x : X) : Obj := ⟨(T "tuple"), none, (.seq #[(S "self" 541), (S "v_1" 542)] 0), #[]⟩
def o189 (x : X) : Obj := ⟨N, none, (.func (fn (st2 6 11) "EsperantoStemmer.r_long_word" 0 N N N N none N N 0)), #[]⟩
def o190 (x : X) : Obj := ⟨(T "tuple"), none, (.seq #[(S "self" 573)] 0), #[]⟩
def o191 (x : X) : Obj := ⟨(T "function"), none, (.func (fn (st2 6 13) "EsperantoStemmer._stem" 3 N N N (S "snowballstemmer.esperanto_stemmer" 473) none (R 309) N 0)), #[]⟩
def o192 (x : X) : Obj := ⟨(T "code"), none, (.fields #[(S "r_initial_apostrophe" 531), (S "EsperantoStemmer.r_initial_apostrophe" 532), (S "/claim/cut.py" 533), (I 259), (I 1), (I 0), (I 0), (I 3), (R 241), (.bool true), (I 181), (R 242), N, (R 243), (R 244), (R 245), (I 535), (I 259), (S "/claim/cut.py" 536)]), #[]⟩
def o193 (x : X) : Obj := ⟨(T "code"), none, (.fields #[(S "r_standard_suffix" 599), (S "EsperantoStemmer.r_standard_suffix" 600), (S "/claim/cut.py" 601), (I 514), (I 1), (I 0), (I 0), (I 3), (R 297), (.bool true), (I 181), (R 298), N, (R 299), (R 300), (R 301), (I 606), (I 514), (S "/claim/cut.py" 607)]), #[]⟩
def o194 (x : X) : Obj := ⟨N, none, (.func (fn (st2 6 3) "EsperantoStemmer.r_canonical_form" 0 N N N N none N N 0)), #[]⟩
def o195 (x : X) : Obj := ⟨(T "function"), none, (.func (fn (st2 6 5) "EsperantoStemmer.r_pronoun" 3 N N N (S "snowballstemmer.esperanto_stemmer" 473) none (R 253) N 0)), #[]⟩
def t367 (x : X) : BT := nd (o0 x) (nd (o1 x) (nd (o13 x) (nd (o3 x) (nd (o3 x) (nd (o14 x) (nd (o15 x) (t208 x) (lf (o8 x))) (nd (o3 x) (nd (o16 x) (lf (o150 x)) .nil) (lf (o17 x)))) (nd (o18 x) (nd (o8 x) (nd (o19 x) (lf (o151 x)) .nil) (lf (o3 x))) (nd (o20 x) (nd (o21 x) (lf (o152 x)) .nil) (lf (o153 x))))) (nd (o22 x) (nd (o3 x) (nd (o3 x) (t219 x) (lf (o23 x))) (nd (o24 x) (nd (o25 x) (lf (o154 x)) .nil) (lf (o142 x)))) (nd (o26 x) (nd (o27 x) (t208 x) (lf (o28 x))) (nd (o29 x) (lf (o3 x)) (lf (o155 x)))))) (nd (o3 x) (nd (o30 x) (nd (o31 x) (nd (o3 x) (nd (o32 x) (lf (o156 x)) .nil) (lf (o33 x))) (nd (o3 x) (t219 x) (lf (⟨(T "dict"), none, (.dict #[E x "__module__" 482 (S "snowballstemmer.esperanto_stemmer" 473), E x "__qualname__" 484 (S "EsperantoStemmer" 483), E x "__firstlineno__" 486 (.int 204 485), E x "g_vowel" 497 (R 232), E x "g_aou" 499 (S "aou" 498), E x "g_digit" 520 (R 233), E x "r_canonical_form" 530 (R 240), E x "r_initial_apostrophe" 537 (R 247), E x "r_pronoun" 545 (R 254), E x "r_final_apostrophe" 553 (R 261), E x "r_ujn_suffix" 562 (R 268), E x "r_uninflected" 569 (R 275), E x "r_merged_numeral" 576 (R 282), E x "r_correlative" 589 (R 289), E x "r_long_word" 598 (R 296), E x "r_standard_suffix" 608 (R 303), E x "_stem" 624 (R 310)] 17), #[]⟩)))) (nd (o8 x) (nd (o34 x) (nd (o35 x) (lf (o158 x)) .nil) (lf (o3 x))) (nd (o36 x) (t208 x) (lf (o159 x))))) (nd (o37 x) (nd (o3 x) (nd (o38 x) (nd (o39 x) (lf (o160 x)) .nil) (lf (o40 x))) (nd (o8 x) (nd (o41 x) (lf (o161 x)) .nil) (lf (o8 x)))) (nd (o42 x) (nd (o43 x) (t208 x) (lf (o44 x))) (nd (o3 x) (lf (o45 x)) (lf (o3 x))))))) (nd (o4 x) (nd (o5 x) (nd (o46 x) (nd (o47 x) (nd (o8 x) (nd (o48 x) (lf (o162 x)) .nil) (lf (o3 x))) (nd (o49 x) (nd (o50 x) (lf (o163 x)) .nil) (lf (o144 x)))) (nd (o51 x) (nd (o3 x) (nd (o52 x) (lf (o164 x)) .nil) (lf (o53 x))) (nd (o3 x) (t219 x) (lf (o3 x))))) (nd (o3 x) (nd (o54 x) (nd (o55 x) (t208 x) (lf (o56 x))) (nd (o57 x) (t208 x) (lf x.d))) (nd (o3 x) (nd (o58 x) (nd (o59 x) (lf (o165 x)) .nil) (lf (o60 x))) (nd (o8 x) (lf (o61 x)) (lf (o8 x)))))) (nd (o11 x) (nd (o62 x) (nd (o8 x) (nd (o63 x) (nd (o64 x) (lf (o166 x)) .nil) (lf (o65 x))) (nd (o66 x) (t208 x) (lf (o167 x)))) (nd (o3 x) (nd (o3 x) (t219 x) (lf (o67 x))) (nd (o68 x) (nd (o69 x) (lf (o168 x)) .nil) (lf (o169 x))))) (nd (o3 x) (nd (o70 x) (nd (o71 x) (t208 x) (lf (o22 x))) (nd (o3 x) (nd (o72 x) (lf (o170 x)) .nil) (lf (o3 x)))) (nd (o73 x) (nd (o8 x) (nd (o74 x) (lf (o171 x)) .nil) (lf (o75 x))) (nd (o76 x) (lf (o77 x)) (lf (o172 x)))))))) (nd (o6 x) (nd (o7 x) (nd (o8 x) (nd (o8 x) (nd (o3 x) (nd (o3 x) (t219 x) (lf (o78 x))) (nd (o79 x) (nd (o80 x) (lf (o173 x)) .nil) (lf (o81 x)))) (nd (o82 x) (nd (o83 x) (t208 x) (lf (o84 x))) (nd (o85 x) (t208 x) (lf (o174 x))))) (nd (o86 x) (nd (o87 x) (nd (o8 x) (nd (o88 x) (lf (o175 x)) .nil) (lf (o89 x))) (nd (o90 x) (nd (o91 x) (lf (o176 x)) .nil) (lf x.v))) (nd (o92 x) (nd (o3 x) (nd (o93 x) (lf (o177 x)) .nil) (lf (o94 x))) (nd (o3 x) (lf (o8 x)) (lf (o3 x)))))) (nd (o145 x) (nd (o96 x) (nd (o3 x) (nd (o97 x) (nd (o98 x) (lf (o178 x)) .nil) (lf (o99 x))) (nd (o8 x) (nd (o100 x) (lf (o179 x)) .nil) (lf (o3 x)))) (nd (o101 x) (nd (o102 x) (t208 x) (lf (o8 x))) (nd (o3 x) (nd (o103 x) (lf (o180 x)) .nil) (lf (o3 x))))) (nd (o104 x) (nd (o8 x) (nd (o105 x) (nd (o106 x) (lf (o181 x)) .nil) (lf (o3 x))) (nd (o107 x) (t208 x) (lf (o182 x)))) (nd (o3 x) (nd (o3 x) (t219 x) (lf (o108 x))) (nd (o109 x) (lf (o110 x)) (lf (o183 x))))))) (nd (o9 x) (nd (o10 x) (nd (o3 x) (nd (o111 x) (nd (o112 x) (t208 x) (lf (o113 x))) (nd (o114 x) (t208 x) (lf (o22 x)))) (nd (o3 x) (nd (o115 x) (nd (o116 x) (lf (o184 x)) .nil) (lf (o117 x))) (nd (o8 x) (nd (o118 x) (lf (o185 x)) .nil) (lf (o8 x))))) (nd (o119 x) (nd (o120 x) (nd (o3 x) (nd (o121 x) (lf (o186 x)) .nil) (lf (o122 x))) (nd (o3 x) (t219 x) (lf (o3 x)))) (nd (o8 x) (nd (o123 x) (nd (o124 x) (lf (o187 x)) .nil) (lf (o125 x))) (nd (o126 x) (lf (o3 x)) (lf (o188 x)))))) (nd (o12 x) (nd (o3 x) (nd (o127 x) (nd (o128 x) (t208 x) (lf (o129 x))) (nd (o3 x) (nd (o130 x) (lf (o189 x)) .nil) (lf (o146 x)))) (nd (o131 x) (nd (o8 x) (nd (o132 x) (lf (o190 x)) .nil) (lf (o3 x))) (nd (o133 x) (nd (o134 x) (lf (o191 x)) .nil) (lf (o192 x))))) (nd (o8 x) (nd (o3 x) (nd (o3 x) (t219 x) (lf (o135 x))) (nd (o136 x) (nd (o137 x) (lf (o193 x)) .nil) (lf (o194 x)))) (nd (o138 x) (nd (o139 x) (t208 x) (lf (o140 x))) (nd (o141 x) (lf (o3 x)) (lf (o195 x))))))))
def sC13 (w : World) (v d : Obj) (os : OsState) : SharedT := ⟨(t367 ⟨w.params, v, d⟩), 311, {}, #[], {}, 625, os⟩
def o196 (x : X) : Obj := ⟨(T "frame"), none, (.dict #[E x "self" 655 (R 318), E x "s" 656 (S "cx" 652), E x "substring_i" 657 (.int 0 653), E x "result" 658 (.int 1 654)] 4), #[]⟩
def o197 (x : X) : Obj := ⟨(R 220), (some 350), .plain, #[]⟩
def t372 (x : X) : BT := nd (o14 x) (nd (o15 x) (t208 x) (nd (o8 x) (lf (o196 x)) .nil)) (nd (o3 x) (nd (o16 x) (lf (o150 x)) .nil) (nd (o17 x) (lf (o197 x)) .nil))
def o198 (x : X) : Obj := ⟨(T "dict"), none, (.dict #[E x "s" 738 (S "ux" 730), E x "substring_i" 740 (.int 0 731), E x "result" 742 (.int 6 732)] 3), #[]⟩
def o199 (x : X) : Obj := ⟨(R 220), (some 326), .plain, #[]⟩
def o200 (x : X) : Obj := ⟨(T "dict"), none, (.dict #[E x "s" 842 (S "ú" 834), E x "substring_i" 844 (.int 0 835), E x "result" 846 (.int 11 836)] 3), #[]⟩
def t381 (x : X) : BT := nd (o3 x) (nd (o3 x) (t219 x) (nd (o23 x) (lf (o199 x)) .nil)) (nd (o24 x) (nd (o25 x) (lf (o154 x)) .nil) (nd (o142 x) (lf (o200 x)) .nil))
def o201 (x : X) : Obj := ⟨(T "frame"), none, (.dict #[E x "self" 759 (R 342), E x "s" 760 (S "x" 756), E x "substring_i" 761 (.int 0 757), E x "result" 762 (.int 12 758)] 4), #[]⟩
def o202 (x : X) : Obj := ⟨(T "dict"), none, (.dict #[E x "s" 634 (S "" 625), E x "substring_i" 636 (.int (-1) 627), E x "result" 638 (.int 14 628)] 3), #[]⟩
def o203 (x : X) : Obj := ⟨(T "dict"), none, (.dict #[E x "s" 686 (S "hx" 678), E x "substring_i" 688 (.int 0 679), E x "result" 690 (.int 3 680)] 3), #[]⟩
def o205 (x : X) : Obj := ⟨(T "frame"), none, (.dict #[E x "self" 811 (R 354), E x "s" 812 (S "í" 808), E x "substring_i" 813 (.int 0 809), E x "result" 814 (.int 9 810)] 4), #[]⟩
def o206 (x : X) : Obj := ⟨(R 220), (some 338), .plain, #[]⟩
def o207 (x : X) : Obj := ⟨(T "frame"), none, (.dict #[E x "self" 707 (R 330), E x "s" 708 (S "q" 704), E x "substring_i" 709 (.int 0 705), E x "result" 710 (.int 12 706)] 4), #[]⟩
def o208 (x : X) : Obj := ⟨(T "dict"), none, (.dict #[E x "s" 790 (S "á" 782), E x "substring_i" 792 (.int 0 783), E x "result" 794 (.int 7 784)] 3), #[]⟩
def o209 (x : X) : Obj := ⟨(R 220), (some 314), .plain, #[]⟩
def o210 (x : X) : Obj := ⟨(R 220), (some 320), .plain, #[]⟩
def o211 (x : X) : Obj := ⟨(T "dict"), none, (.dict #[E x "s" 816 (S "í" 808), E x "substring_i" 818 (.int 0 809), E x "result" 820 (.int 9 810)] 3), #[]⟩
def t413 (x : X) : BT := nd (o47 x) (nd (o8 x) (nd (o48 x) (lf (o162 x)) .nil) (nd (o3 x) (lf (o210 x)) .nil)) (nd (o49 x) (nd (o50 x) (lf (o163 x)) .nil) (nd (o144 x) (lf (o211 x)) .nil))
def o212 (x : X) : Obj := ⟨(T "frame"), none, (.dict #[E x "self" 733 (R 336), E x "s" 734 (S "ux" 730), E x "substring_i" 735 (.int 0 731), E x "result" 736 (.int 6 732)] 4), #[]⟩
def o213 (x : X) : Obj := ⟨(T "dict"), none, (.dict #[E x "s" 712 (S "q" 704), E x "substring_i" 714 (.int 0 705), E x "result" 716 (.int 12 706)] 3), #[]⟩
def o214 (x : X) : Obj := ⟨(T "frame"), none, (.dict #[E x "self" 837 (R 360), E x "s" 838 (S "ú" 834), E x "substring_i" 839 (.int 0 835), E x "result" 840 (.int 11 836)] 4), #[]⟩
def t422 (x : X) : BT := nd (o54 x) (nd (o55 x) (t208 x) (nd (o56 x) (lf (o213 x)) .nil)) (nd (o57 x) (t208 x) (nd x.d (lf (o214 x)) .nil))
def o215 (x : X) : Obj := ⟨(R 220), (some 344), .plain, #[]⟩
def o216 (x : X) : Obj := ⟨(T "frame"), none, (.dict #[E x "self" 629 (R 312), E x "s" 630 (S "" 625), E x "substring_i" 631 (.int (-1) 627), E x "result" 632 (.int 14 628)] 4), #[]⟩
def o217 (x : X) : Obj := ⟨(T "frame"), none, (.dict #[E x "self" 681 (R 324), E x "s" 682 (S "hx" 678), E x "substring_i" 683 (.int 0 679), E x "result" 684 (.int 3 680)] 4), #[]⟩
def o218 (x : X) : Obj := ⟨(R 220), (some 356), .plain, #[]⟩
def t434 (x : X) : BT := nd (o8 x) (nd (o63 x) (nd (o64 x) (lf (o166 x)) .nil) (nd (o65 x) (lf (o217 x)) .nil)) (nd (o66 x) (t208 x) (nd (o167 x) (lf (o218 x)) .nil))
def o219 (x : X) : Obj := ⟨(T "dict"), none, (.dict #[E x "s" 764 (S "x" 756), E x "substring_i" 766 (.int 0 757), E x "result" 768 (.int 12 758)] 3), #[]⟩
def o220 (x : X) : Obj := ⟨(R 220), (some 332), .plain, #[]⟩
def o221 (x : X) : Obj := ⟨(T "frame"), none, (.dict #[E x "self" 785 (R 348), E x "s" 786 (S "á" 782), E x "substring_i" 787 (.int 0 783), E x "result" 788 (.int 7 784)] 4), #[]⟩
def o222 (x : X) : Obj := ⟨(T "dict"), none, (.dict #[E x "s" 660 (S "cx" 652), E x "substring_i" 662 (.int 0 653), E x "result" 664 (.int 1 654)] 3), #[]⟩
def o223 (x : X) : Obj := ⟨(T "dict"), none, (.dict #[E x "s" 673 (S "gx" 665), E x "substring_i" 675 (.int 0 666), E x "result" 677 (.int 2 667)] 3), #[]⟩
def o224 (x : X) : Obj := ⟨(T "frame"), none, (.dict #[E x "self" 798 (R 351), E x "s" 799 (S "é" 795), E x "substring_i" 800 (.int 0 796), E x "result" 801 (.int 8 797)] 4), #[]⟩
def t455 (x : X) : BT := nd (o3 x) (nd (o3 x) (t219 x) (nd (o78 x) (lf (o223 x)) .nil)) (nd (o79 x) (nd (o80 x) (lf (o173 x)) .nil) (nd (o81 x) (lf (o224 x)) .nil))
def o225 (x : X) : Obj := ⟨(R 220), (some 335), .plain, #[]⟩
def o226 (x : X) : Obj := ⟨(T "frame"), none, (.dict #[E x "self" 694 (R 327), E x "s" 695 (S "jx" 691), E x "substring_i" 696 (.int 0 692), E x "result" 697 (.int 4 693)] 4), #[]⟩
def o227 (x : X) : Obj := ⟨(R 220), (some 359), .plain, #[]⟩
def t464 (x : X) : BT := nd (o87 x) (nd (o8 x) (nd (o88 x) (lf (o175 x)) .nil) (nd (o89 x) (lf (o226 x)) .nil)) (nd (o90 x) (nd (o91 x) (lf (o176 x)) .nil) (nd x.v (lf (o227 x)) .nil))
def o228 (x : X) : Obj := ⟨(T "dict"), none, (.dict #[E x "s" 777 (S "y" 769), E x "substring_i" 779 (.int 0 770), E x "result" 781 (.int 12 771)] 3), #[]⟩
def o229 (x : X) : Obj := ⟨(R 220), (some 311), .plain, #[]⟩
def o230 (x : X) : Obj := ⟨(R 220), (some 323), .plain, #[]⟩
def o231 (x : X) : Obj := ⟨(T "dict"), none, (.dict #[E x "s" 829 (S "ó" 821), E x "substring_i" 831 (.int 0 822), E x "result" 833 (.int 10 823)] 3), #[]⟩
def t476 (x : X) : BT := nd (o3 x) (nd (o97 x) (nd (o98 x) (lf (o178 x)) .nil) (nd (o99 x) (lf (o230 x)) .nil)) (nd (o8 x) (nd (o100 x) (lf (o179 x)) .nil) (nd (o3 x) (lf (o231 x)) .nil))
def o232 (x : X) : Obj := ⟨(T "frame"), none, (.dict #[E x "self" 746 (R 339), E x "s" 747 (S "w" 743), E x "substring_i" 748 (.int 0 744), E x "result" 749 (.int 12 745)] 4), #[]⟩
def o233 (x : X) : Obj := ⟨(T "dict"), none, (.dict #[E x "s" 725 (S "sx" 717), E x "substring_i" 727 (.int 0 718), E x "result" 729 (.int 5 719)] 3), #[]⟩
def o234 (x : X) : Obj := ⟨(R 220), (some 347), .plain, #[]⟩
def o235 (x : X) : Obj := ⟨(T "frame"), none, (.dict #[E x "self" 642 (R 315), E x "s" 643 (S "-" 639), E x "substring_i" 644 (.int 0 640), E x "result" 645 (.int 13 641)] 4), #[]⟩
def o236 (x : X) : Obj := ⟨(T "frame"), none, (.dict #[E x "self" 668 (R 321), E x "s" 669 (S "gx" 665), E x "substring_i" 670 (.int 0 666), E x "result" 671 (.int 2 667)] 4), #[]⟩
def o237 (x : X) : Obj := ⟨(R 220), (some 353), .plain, #[]⟩
def t496 (x : X) : BT := nd (o111 x) (nd (o112 x) (t208 x) (nd (o113 x) (lf (o236 x)) .nil)) (nd (o114 x) (t208 x) (nd (o22 x) (lf (o237 x)) .nil))
def o238 (x : X) : Obj := ⟨(T "dict"), none, (.dict #[E x "s" 751 (S "w" 743), E x "substring_i" 753 (.int 0 744), E x "result" 755 (.int 12 745)] 3), #[]⟩
def o239 (x : X) : Obj := ⟨(R 220), (some 329), .plain, #[]⟩
def o240 (x : X) : Obj := ⟨(T "list"), none, (.seq #[(R 312), (R 315), (R 318), (R 321), (R 324), (R 327), (R 330), (R 333), (R 336), (R 339), (R 342), (R 345), (R 348), (R 351), (R 354), (R 357), (R 360)] 0), #[]⟩
def t505 (x : X) : BT := nd (o120 x) (nd (o3 x) (nd (o121 x) (lf (o186 x)) .nil) (nd (o122 x) (lf (o239 x)) .nil)) (nd (o3 x) (t219 x) (nd (o3 x) (lf (o240 x)) .nil))
def o241 (x : X) : Obj := ⟨(T "frame"), none, (.dict #[E x "self" 772 (R 345), E x "s" 773 (S "y" 769), E x "substring_i" 774 (.int 0 770), E x "result" 775 (.int 12 771)] 4), #[]⟩
def o242 (x : X) : Obj := ⟨(T "dict"), none, (.dict #[E x "s" 647 (S "-" 639), E x "substring_i" 649 (.int 0 640), E x "result" 651 (.int 13 641)] 3), #[]⟩
def o243 (x : X) : Obj := ⟨(T "dict"), none, (.dict #[E x "s" 699 (S "jx" 691), E x "substring_i" 701 (.int 0 692), E x "result" 703 (.int 4 693)] 3), #[]⟩
def o244 (x : X) : Obj := ⟨(T "frame"), none, (.dict #[E x "self" 824 (R 357), E x "s" 825 (S "ó" 821), E x "substring_i" 826 (.int 0 822), E x "result" 827 (.int 10 823)] 4), #[]⟩
def t517 (x : X) : BT := nd (o127 x) (nd (o128 x) (t208 x) (nd (o129 x) (lf (o243 x)) .nil)) (nd (o3 x) (nd (o130 x) (lf (o189 x)) .nil) (nd (o146 x) (lf (o244 x)) .nil))
def o245 (x : X) : Obj := ⟨(R 220), (some 341), .plain, #[]⟩
def o246 (x : X) : Obj := ⟨(T "frame"), none, (.dict #[E x "self" 720 (R 333), E x "s" 721 (S "sx" 717), E x "substring_i" 722 (.int 0 718), E x "result" 723 (.int 5 719)] 4), #[]⟩
def o247 (x : X) : Obj := ⟨(T "dict"), none, (.dict #[E x "s" 803 (S "é" 795), E x "substring_i" 805 (.int 0 796), E x "result" 807 (.int 8 797)] 3), #[]⟩
def o248 (x : X) : Obj := ⟨(R 220), (some 317), .plain, #[]⟩
def t529 (x : X) : BT := nd (o138 x) (nd (o139 x) (t208 x) (nd (o140 x) (lf (o247 x)) .nil)) (nd (o141 x) (nd (o3 x) (lf (o248 x)) .nil) (lf (o195 x)))
def t534 (x : X) : BT := nd (o0 x) (nd (o1 x) (nd (o13 x) (nd (o3 x) (nd (o3 x) (t372 x) (nd (o18 x) (nd (o8 x) (nd (o19 x) (lf (o151 x)) .nil) (nd (o3 x) (lf (o198 x)) .nil)) (nd (o20 x) (nd (o21 x) (lf (o152 x)) .nil) (lf (o153 x))))) (nd (o22 x) (t381 x) (nd (o26 x) (nd (o27 x) (t208 x) (nd (o28 x) (lf (o201 x)) .nil)) (nd (o29 x) (nd (o3 x) (lf (o202 x)) .nil) (lf (o155 x)))))) (nd (o3 x) (nd (o30 x) (nd (o31 x) (nd (o3 x) (nd (o32 x) (lf (o156 x)) .nil) (nd (o33 x) (lf (o203 x)) .nil)) (nd (o3 x) (t219 x) (nd (⟨(T "dict"), none, (.dict #[E x "__module__" 482 (S "snowballstemmer.esperanto_stemmer" 473), E x "__qualname__" 484 (S "EsperantoStemmer" 483), E x "__firstlineno__" 486 (.int 204 485), E x "g_vowel" 497 (R 232), E x "g_aou" 499 (S "aou" 498), E x "g_digit" 520 (R 233), E x "r_canonical_form" 530 (R 240), E x "r_initial_apostrophe" 537 (R 247), E x "r_pronoun" 545 (R 254), E x "r_final_apostrophe" 553 (R 261), E x "r_ujn_suffix" 562 (R 268), E x "r_uninflected" 569 (R 275), E x "r_merged_numeral" 576 (R 282), E x "r_correlative" 589 (R 289), E x "r_long_word" 598 (R 296), E x "r_standard_suffix" 608 (R 303), E x "_stem" 624 (R 310), E x "a_0" 847 (R 362)] 18), #[]⟩) (lf (o205 x)) .nil))) (nd (o8 x) (nd (o34 x) (nd (o35 x) (lf (o158 x)) .nil) (nd (o3 x) (lf (o206 x)) .nil)) (nd (o36 x) (t208 x) (lf (o159 x))))) (nd (o37 x) (nd (o3 x) (nd (o38 x) (nd (o39 x) (lf (o160 x)) .nil) (nd (o40 x) (lf (o207 x)) .nil)) (nd (o8 x) (nd (o41 x) (lf (o161 x)) .nil) (lf (o8 x)))) (nd (o42 x) (nd (o43 x) (t208 x) (nd (o44 x) (lf (o208 x)) .nil)) (nd (o3 x) (nd (o45 x) (lf (o209 x)) .nil) (lf (o3 x))))))) (nd (o4 x) (nd (o5 x) (nd (o46 x) (t413 x) (nd (o51 x) (nd (o3 x) (nd (o52 x) (lf (o164 x)) .nil) (nd (o53 x) (lf (o212 x)) .nil)) (nd (o3 x) (t219 x) (lf (o3 x))))) (nd (o3 x) (t422 x) (nd (o3 x) (nd (o58 x) (nd (o59 x) (lf (o165 x)) .nil) (nd (o60 x) (lf (o215 x)) .nil)) (nd (o8 x) (nd (o61 x) (lf (o216 x)) .nil) (lf (o8 x)))))) (nd (o11 x) (nd (o62 x) (t434 x) (nd (o3 x) (nd (o3 x) (t219 x) (nd (o67 x) (lf (o219 x)) .nil)) (nd (o68 x) (nd (o69 x) (lf (o168 x)) .nil) (lf (o169 x))))) (nd (o3 x) (nd (o70 x) (nd (o71 x) (t208 x) (nd (o22 x) (lf (o220 x)) .nil)) (nd (o3 x) (nd (o72 x) (lf (o170 x)) .nil) (lf (o3 x)))) (nd (o73 x) (nd (o8 x) (nd (o74 x) (lf (o171 x)) .nil) (nd (o75 x) (lf (o221 x)) .nil)) (nd (o76 x) (nd (o77 x) (lf (o222 x)) .nil) (lf (o172 x)))))))) (nd (o6 x) (nd (o7 x) (nd (o8 x) (nd (o8 x) (t455 x) (nd (o82 x) (nd (o83 x) (t208 x) (nd (o84 x) (lf (o225 x)) .nil)) (nd (o85 x) (t208 x) (lf (o174 x))))) (nd (o86 x) (t464 x) (nd (o92 x) (nd (o3 x) (nd (o93 x) (lf (o177 x)) .nil) (nd (o94 x) (lf (o228 x)) .nil)) (nd (o3 x) (nd (o8 x) (lf (o229 x)) .nil) (lf (o3 x)))))) (nd (o145 x) (nd (o96 x) (t476 x) (nd (o101 x) (nd (o102 x) (t208 x) (nd (o8 x) (lf (o232 x)) .nil)) (nd (o3 x) (nd (o103 x) (lf (o180 x)) .nil) (lf (o3 x))))) (nd (o104 x) (nd (o8 x) (nd (o105 x) (nd (o106 x) (lf (o181 x)) .nil) (nd (o3 x) (lf (o233 x)) .nil)) (nd (o107 x) (t208 x) (lf (o182 x)))) (nd (o3 x) (nd (o3 x) (t219 x) (nd (o108 x) (lf (o234 x)) .nil)) (nd (o109 x) (nd (o110 x) (lf (o235 x)) .nil) (lf (o183 x))))))) (nd (o9 x) (nd (o10 x) (nd (o3 x) (t496 x) (nd (o3 x) (nd (o115 x) (nd (o116 x) (lf (o184 x)) .nil) (nd (o117 x) (lf (o238 x)) .nil)) (nd (o8 x) (nd (o118 x) (lf (o185 x)) .nil) (lf (o8 x))))) (nd (o119 x) (t505 x) (nd (o8 x) (nd (o123 x) (nd (o124 x) (lf (o187 x)) .nil) (nd (o125 x) (lf (o241 x)) .nil)) (nd (o126 x) (nd (o3 x) (lf (o242 x)) .nil) (lf (o188 x)))))) (nd (o12 x) (nd (o3 x) (t517 x) (nd (o131 x) (nd (o8 x) (nd (o132 x) (lf (o190 x)) .nil) (nd (o3 x) (lf (o245 x)) .nil)) (nd (o133 x) (nd (o134 x) (lf (o191 x)) .nil) (lf (o192 x))))) (nd (o8 x) (nd (o3 x) (nd (o3 x) (t219 x) (nd (o135 x) (lf (o246 x)) .nil)) (nd (o136 x) (nd (o137 x) (lf (o193 x)) .nil) (lf (o194 x)))) (t529 x)))))
def sC14 (w : World) (v d : Obj) (os : OsState) : SharedT := ⟨(t534 ⟨w.params, v, d⟩), 363, {}, #[], {}, 848, os⟩
def o250 (x : X) : Obj := ⟨(T "dict"), none, (.dict #[E x "s" 917 (S "u" 907), E x "substring_i" 919 (.int (-1) 909), E x "result" 921 (.int (-1) 911)] 3), #[]⟩
def o252 (x : X) : Obj := ⟨(T "frame"), none, (.dict #[E x "self" 882 (R 370), E x "s" 883 (S "is" 878), E x "substring_i" 884 (.int 1 879), E x "result" 885 (.int (-1) 881)] 4), #[]⟩
def o253 (x : X) : Obj := ⟨(T "dict"), none, (.dict #[E x "s" 858 (S "as" 848), E x "substring_i" 860 (.int (-1) 850), E x "result" 862 (.int (-1) 852)] 3), #[]⟩
def t555 (x : X) : BT := nd (o3 x) (nd (o45 x) (lf (o209 x)) .nil) (nd (o3 x) (lf (⟨(R 220), (some 378), .plain, #[]⟩)) .nil)
def o255 (x : X) : Obj := ⟨(T "dict"), none, (.dict #[E x "s" 887 (S "is" 878), E x "substring_i" 889 (.int 1 879), E x "result" 891 (.int (-1) 881)] 3), #[]⟩
def o256 (x : X) : Obj := ⟨(T "frame"), none, (.dict #[E x "self" 912 (R 376), E x "s" 913 (S "u" 907), E x "substring_i" 914 (.int (-1) 909), E x "result" 915 (.int (-1) 911)] 4), #[]⟩
def t570 (x : X) : BT := nd (o68 x) (nd (o69 x) (lf (o168 x)) .nil) (nd (o169 x) (lf (⟨(R 220), (some 372), .plain, #[]⟩)) .nil)
def o258 (x : X) : Obj := ⟨(T "frame"), none, (.dict #[E x "self" 853 (R 364), E x "s" 854 (S "as" 848), E x "substring_i" 855 (.int (-1) 850), E x "result" 856 (.int (-1) 852)] 4), #[]⟩
def o259 (x : X) : Obj := ⟨(T "list"), none, (.seq #[(R 364), (R 367), (R 370), (R 373), (R 376), (R 379)] 0), #[]⟩
def o260 (x : X) : Obj := ⟨(T "frame"), none, (.dict #[E x "self" 868 (R 367), E x "s" 869 (S "i" 863), E x "substring_i" 870 (.int (-1) 865), E x "result" 871 (.int (-1) 867)] 4), #[]⟩
def t588 (x : X) : BT := nd (o3 x) (nd (o8 x) (lf (o229 x)) .nil) (nd (o3 x) (lf (⟨(R 220), (some 375), .plain, #[]⟩)) .nil)
def o262 (x : X) : Obj := ⟨(T "dict"), none, (.dict #[E x "s" 902 (S "os" 892), E x "substring_i" 904 (.int (-1) 894), E x "result" 906 (.int (-1) 896)] 3), #[]⟩
def o264 (x : X) : Obj := ⟨(T "frame"), none, (.dict #[E x "self" 926 (R 379), E x "s" 927 (S "us" 922), E x "substring_i" 928 (.int 4 923), E x "result" 929 (.int (-1) 925)] 4), #[]⟩
def t606 (x : X) : BT := nd (o8 x) (nd (o118 x) (lf (o185 x)) .nil) (nd (o8 x) (lf (⟨(R 220), (some 369), .plain, #[]⟩)) .nil)
def o266 (x : X) : Obj := ⟨(T "dict"), none, (.dict #[E x "s" 931 (S "us" 922), E x "substring_i" 933 (.int 4 923), E x "result" 935 (.int (-1) 925)] 3), #[]⟩
def o267 (x : X) : Obj := ⟨(T "frame"), none, (.dict #[E x "self" 897 (R 373), E x "s" 898 (S "os" 892), E x "substring_i" 899 (.int (-1) 894), E x "result" 900 (.int (-1) 896)] 4), #[]⟩
def o268 (x : X) : Obj := ⟨(T "dict"), none, (.dict #[E x "s" 873 (S "i" 863), E x "substring_i" 875 (.int (-1) 865), E x "result" 877 (.int (-1) 867)] 3), #[]⟩
def t625 (x : X) : BT := nd (o0 x) (nd (o1 x) (nd (o13 x) (nd (o3 x) (nd (o3 x) (t372 x) (nd (o18 x) (nd (o8 x) (nd (o19 x) (lf (o151 x)) .nil) (nd (o3 x) (lf (o198 x)) .nil)) (nd (o20 x) (nd (o21 x) (lf (o152 x)) .nil) (nd (o153 x) (lf (⟨(R 220), (some 366), .plain, #[]⟩)) .nil)))) (nd (o22 x) (t381 x) (nd (o26 x) (nd (o27 x) (t208 x) (nd (o28 x) (lf (o201 x)) .nil)) (nd (o29 x) (nd (o3 x) (lf (o202 x)) .nil) (nd (o155 x) (lf (o250 x)) .nil))))) (nd (o3 x) (nd (o30 x) (nd (o31 x) (nd (o3 x) (nd (o32 x) (lf (o156 x)) .nil) (nd (o33 x) (lf (o203 x)) .nil)) (nd (o3 x) (t219 x) (nd (⟨(T "dict"), none, (.dict #[E x "__module__" 482 (S "snowballstemmer.esperanto_stemmer" 473), E x "__qualname__" 484 (S "EsperantoStemmer" 483), E x "__firstlineno__" 486 (.int 204 485), E x "g_vowel" 497 (R 232), E x "g_aou" 499 (S "aou" 498), E x "g_digit" 520 (R 233), E x "r_canonical_form" 530 (R 240), E x "r_initial_apostrophe" 537 (R 247), E x "r_pronoun" 545 (R 254), E x "r_final_apostrophe" 553 (R 261), E x "r_ujn_suffix" 562 (R 268), E x "r_uninflected" 569 (R 275), E x "r_merged_numeral" 576 (R 282), E x "r_correlative" 589 (R 289), E x "r_long_word" 598 (R 296), E x "r_standard_suffix" 608 (R 303), E x "_stem" 624 (R 310), E x "a_0" 847 (R 362), E x "a_1" 936 (R 381)] 19), #[]⟩) (lf (o205 x)) .nil))) (nd (o8 x) (nd (o34 x) (nd (o35 x) (lf (o158 x)) .nil) (nd (o3 x) (lf (o206 x)) .nil)) (nd (o36 x) (t208 x) (nd (o159 x) (lf (o252 x)) .nil)))) (nd (o37 x) (nd (o3 x) (nd (o38 x) (nd (o39 x) (lf (o160 x)) .nil) (nd (o40 x) (lf (o207 x)) .nil)) (nd (o8 x) (nd (o41 x) (lf (o161 x)) .nil) (nd (o8 x) (lf (o253 x)) .nil))) (nd (o42 x) (nd (o43 x) (t208 x) (nd (o44 x) (lf (o208 x)) .nil)) (t555 x))))) (nd (o4 x) (nd (o5 x) (nd (o46 x) (t413 x) (nd (o51 x) (nd (o3 x) (nd (o52 x) (lf (o164 x)) .nil) (nd (o53 x) (lf (o212 x)) .nil)) (nd (o3 x) (t219 x) (nd (o3 x) (lf (o255 x)) .nil)))) (nd (o3 x) (t422 x) (nd (o3 x) (nd (o58 x) (nd (o59 x) (lf (o165 x)) .nil) (nd (o60 x) (lf (o215 x)) .nil)) (nd (o8 x) (nd (o61 x) (lf (o216 x)) .nil) (nd (o8 x) (lf (o256 x)) .nil))))) (nd (o11 x) (nd (o62 x) (t434 x) (nd (o3 x) (nd (o3 x) (t219 x) (nd (o67 x) (lf (o219 x)) .nil)) (t570 x))) (nd (o3 x) (nd (o70 x) (nd (o71 x) (t208 x) (nd (o22 x) (lf (o220 x)) .nil)) (nd (o3 x) (nd (o72 x) (lf (o170 x)) .nil) (nd (o3 x) (lf (o258 x)) .nil))) (nd (o73 x) (nd (o8 x) (nd (o74 x) (lf (o171 x)) .nil) (nd (o75 x) (lf (o221 x)) .nil)) (nd (o76 x) (nd (o77 x) (lf (o222 x)) .nil) (nd (o172 x) (lf (o259 x)) .nil))))))) (nd (o6 x) (nd (o7 x) (nd (o8 x) (nd (o8 x) (t455 x) (nd (o82 x) (nd (o83 x) (t208 x) (nd (o84 x) (lf (o225 x)) .nil)) (nd (o85 x) (t208 x) (nd (o174 x) (lf (o260 x)) .nil)))) (nd (o86 x) (t464 x) (nd (o92 x) (nd (o3 x) (nd (o93 x) (lf (o177 x)) .nil) (nd (o94 x) (lf (o228 x)) .nil)) (t588 x)))) (nd (o145 x) (nd (o96 x) (t476 x) (nd (o101 x) (nd (o102 x) (t208 x) (nd (o8 x) (lf (o232 x)) .nil)) (nd (o3 x) (nd (o103 x) (lf (o180 x)) .nil) (nd (o3 x) (lf (o262 x)) .nil)))) (nd (o104 x) (nd (o8 x) (nd (o105 x) (nd (o106 x) (lf (o181 x)) .nil) (nd (o3 x) (lf (o233 x)) .nil)) (nd (o107 x) (t208 x) (nd (o182 x) (lf (⟨(R 220), (some 363), .plain, #[]⟩)) .nil))) (nd (o3 x) (nd (o3 x) (t219 x) (nd (o108 x) (lf (o234 x)) .nil)) (nd (o109 x) (nd (o110 x) (lf (o235 x)) .nil) (nd (o183 x) (lf (o264 x)) .nil)))))) (nd (o9 x) (nd (o10 x) (nd (o3 x) (t496 x) (nd (o3 x) (nd (o115 x) (nd (o116 x) (lf (o184 x)) .nil) (nd (o117 x) (lf (o238 x)) .nil)) (t606 x))) (nd (o119 x) (t505 x) (nd (o8 x) (nd (o123 x) (nd (o124 x) (lf (o187 x)) .nil) (nd (o125 x) (lf (o241 x)) .nil)) (nd (o126 x) (nd (o3 x) (lf (o242 x)) .nil) (nd (o188 x) (lf (o266 x)) .nil))))) (nd (o12 x) (nd (o3 x) (t517 x) (nd (o131 x) (nd (o8 x) (nd (o132 x) (lf (o190 x)) .nil) (nd (o3 x) (lf (o245 x)) .nil)) (nd (o133 x) (nd (o134 x) (lf (o191 x)) .nil) (nd (o192 x) (lf (o267 x)) .nil)))) (nd (o8 x) (nd (o3 x) (nd (o3 x) (t219 x) (nd (o135 x) (lf (o246 x)) .nil)) (nd (o136 x) (nd (o137 x) (lf (o193 x)) .nil) (nd (o194 x) (lf (o268 x)) .nil))) (t529 x)))))
def sC15 (w : World) (v d : Obj) (os : OsState) : SharedT := ⟨(t625 ⟨w.params, v, d⟩), 382, {}, #[], {}, 937, os⟩
def o269 (x : X) : Obj := ⟨(R 220), (some 382), .plain, #[]⟩
def o270 (x : X) : Obj := ⟨(T "dict"), none, (.dict #[E x "s" 1109 (S "vi" 1099), E x "substring_i" 1111 (.int (-1) 1101), E x "result" 1113 (.int (-1) 1103)] 3), #[]⟩
def o271 (x : X) : Obj := ⟨(T "frame"), none, (.dict #[E x "self" 1015 (R 398), E x "s" 1016 (S "ŝli" 1011), E x "substring_i" 1017 (.int 3 1012), E x "result" 1018 (.int (-1) 1014)] 4), #[]⟩
def o272 (x : X) : Obj := ⟨(R 220), (some 430), .plain, #[]⟩
def t634 (x : X) : BT := nd (o20 x) (nd (o21 x) (lf (o152 x)) (lf (o272 x))) (nd (o153 x) (lf (⟨(R 220), (some 366), .plain, #[]⟩)) .nil)
def o273 (x : X) : Obj := ⟨(T "dict"), none, (.dict #[E x "s" 992 (S "li" 982), E x "substring_i" 994 (.int (-1) 984), E x "result" 996 (.int (-1) 986)] 3), #[]⟩
def o274 (x : X) : Obj := ⟨(T "frame"), none, (.dict #[E x "self" 1133 (R 422), E x "s" 1134 (S "ĝi" 1128), E x "substring_i" 1135 (.int (-1) 1130), E x "result" 1136 (.int (-1) 1132)] 4), #[]⟩
def o275 (x : X) : Obj := ⟨(R 220), (some 406), .plain, #[]⟩
def o276 (x : X) : Obj := ⟨(T "frame"), none, (.dict #[E x "self" 957 (R 386), E x "s" 958 (S "gi" 952), E x "substring_i" 959 (.int (-1) 954), E x "result" 960 (.int (-1) 956)] 4), #[]⟩
def o277 (x : X) : Obj := ⟨(R 220), (some 418), .plain, #[]⟩
def o279 (x : X) : Obj := ⟨(T "dict"), none, (.dict #[E x "s" 1050 (S "ni" 1040), E x "substring_i" 1052 (.int (-1) 1042), E x "result" 1054 (.int (-1) 1044)] 3), #[]⟩
def o280 (x : X) : Obj := ⟨(R 220), (some 394), .plain, #[]⟩
def o281 (x : X) : Obj := ⟨(T "dict"), none, (.dict #[E x "s" 1167 (S "iŝi" 1158), E x "substring_i" 1169 (.int 14 1159), E x "result" 1171 (.int (-1) 1161)] 3), #[]⟩
def o282 (x : X) : Obj := ⟨(T "frame"), none, (.dict #[E x "self" 1074 (R 410), E x "s" 1075 (S "ri" 1069), E x "substring_i" 1076 (.int (-1) 1071), E x "result" 1077 (.int (-1) 1073)] 4), #[]⟩
def o283 (x : X) : Obj := ⟨(T "dict"), none, (.dict #[E x "s" 962 (S "gi" 952), E x "substring_i" 964 (.int (-1) 954), E x "result" 966 (.int (-1) 956)] 3), #[]⟩
def o284 (x : X) : Obj := ⟨(T "frame"), none, (.dict #[E x "self" 1104 (R 416), E x "s" 1105 (S "vi" 1099), E x "substring_i" 1106 (.int (-1) 1101), E x "result" 1107 (.int (-1) 1103)] 4), #[]⟩
def o285 (x : X) : Obj := ⟨(R 220), (some 400), .plain, #[]⟩
def o286 (x : X) : Obj := ⟨(T "list"), none, (.seq #[(R 383), (R 386), (R 389), (R 392), (R 395), (R 398), (R 401), (R 404), (R 407), (R 410), (R 413), (R 416), (R 419), (R 422), (R 425), (R 428), (R 431)] 0), #[]⟩
def o287 (x : X) : Obj := ⟨(T "frame"), none, (.dict #[E x "self" 987 (R 392), E x "s" 988 (S "li" 982), E x "substring_i" 989 (.int (-1) 984), E x "result" 990 (.int (-1) 986)] 4), #[]⟩
def o288 (x : X) : Obj := ⟨(R 220), (some 424), .plain, #[]⟩
def o289 (x : X) : Obj := ⟨(T "dict"), none, (.dict #[E x "s" 1079 (S "ri" 1069), E x "substring_i" 1081 (.int (-1) 1071), E x "result" 1083 (.int (-1) 1073)] 3), #[]⟩
def o290 (x : X) : Obj := ⟨(R 220), (some 388), .plain, #[]⟩
def o291 (x : X) : Obj := ⟨(T "dict"), none, (.dict #[E x "s" 1138 (S "ĝi" 1128), E x "substring_i" 1140 (.int (-1) 1130), E x "result" 1142 (.int (-1) 1132)] 3), #[]⟩
def o292 (x : X) : Obj := ⟨(T "frame"), none, (.dict #[E x "self" 1045 (R 404), E x "s" 1046 (S "ni" 1040), E x "substring_i" 1047 (.int (-1) 1042), E x "result" 1048 (.int (-1) 1044)] 4), #[]⟩
def o293 (x : X) : Obj := ⟨(T "dict"), none, (.dict #[E x "s" 1020 (S "ŝli" 1011), E x "substring_i" 1022 (.int 3 1012), E x "result" 1024 (.int (-1) 1014)] 3), #[]⟩
def o294 (x : X) : Obj := ⟨(T "frame"), none, (.dict #[E x "self" 1162 (R 428), E x "s" 1163 (S "iŝi" 1158), E x "substring_i" 1164 (.int 14 1159), E x "result" 1165 (.int (-1) 1161)] 4), #[]⟩
def o295 (x : X) : Obj := ⟨(R 220), (some 412), .plain, #[]⟩
def o296 (x : X) : Obj := ⟨(T "frame"), none, (.dict #[E x "self" 942 (R 383), E x "s" 943 (S "ci" 937), E x "substring_i" 944 (.int (-1) 939), E x "result" 945 (.int (-1) 941)] 4), #[]⟩
def o297 (x : X) : Obj := ⟨(R 220), (some 415), .plain, #[]⟩
def o298 (x : X) : Obj := ⟨(T "dict"), none, (.dict #[E x "s" 1035 (S "mi" 1025), E x "substring_i" 1037 (.int (-1) 1027), E x "result" 1039 (.int (-1) 1029)] 3), #[]⟩
def o299 (x : X) : Obj := ⟨(T "frame"), none, (.dict #[E x "self" 1176 (R 431), E x "s" 1177 (S "malŝi" 1172), E x "substring_i" 1178 (.int 14 1173), E x "result" 1179 (.int (-1) 1175)] 4), #[]⟩
def o300 (x : X) : Obj := ⟨(R 220), (some 391), .plain, #[]⟩
def o301 (x : X) : Obj := ⟨(T "dict"), none, (.dict #[E x "s" 1153 (S "ŝi" 1143), E x "substring_i" 1155 (.int (-1) 1145), E x "result" 1157 (.int (-1) 1147)] 3), #[]⟩
def o302 (x : X) : Obj := ⟨(T "frame"), none, (.dict #[E x "self" 1059 (R 407), E x "s" 1060 (S "oni" 1055), E x "substring_i" 1061 (.int 7 1056), E x "result" 1062 (.int (-1) 1058)] 4), #[]⟩
def o303 (x : X) : Obj := ⟨(T "dict"), none, (.dict #[E x "s" 977 (S "hi" 967), E x "substring_i" 979 (.int (-1) 969), E x "result" 981 (.int (-1) 971)] 3), #[]⟩
def o304 (x : X) : Obj := ⟨(T "frame"), none, (.dict #[E x "self" 1118 (R 419), E x "s" 1119 (S "ivi" 1114), E x "substring_i" 1120 (.int 11 1115), E x "result" 1121 (.int (-1) 1117)] 4), #[]⟩
def o305 (x : X) : Obj := ⟨(R 220), (some 403), .plain, #[]⟩
def o306 (x : X) : Obj := ⟨(T "frame"), none, (.dict #[E x "self" 1001 (R 395), E x "s" 1002 (S "ili" 997), E x "substring_i" 1003 (.int 3 998), E x "result" 1004 (.int (-1) 1000)] 4), #[]⟩
def o307 (x : X) : Obj := ⟨(R 220), (some 427), .plain, #[]⟩
def o308 (x : X) : Obj := ⟨(T "dict"), none, (.dict #[E x "s" 1094 (S "si" 1084), E x "substring_i" 1096 (.int (-1) 1086), E x "result" 1098 (.int (-1) 1088)] 3), #[]⟩
def o309 (x : X) : Obj := ⟨(R 220), (some 385), .plain, #[]⟩
def o310 (x : X) : Obj := ⟨(T "dict"), none, (.dict #[E x "s" 1123 (S "ivi" 1114), E x "substring_i" 1125 (.int 11 1115), E x "result" 1127 (.int (-1) 1117)] 3), #[]⟩
def o311 (x : X) : Obj := ⟨(T "frame"), none, (.dict #[E x "self" 1030 (R 401), E x "s" 1031 (S "mi" 1025), E x "substring_i" 1032 (.int (-1) 1027), E x "result" 1033 (.int (-1) 1029)] 4), #[]⟩
def o312 (x : X) : Obj := ⟨(T "dict"), none, (.dict #[E x "s" 1006 (S "ili" 997), E x "substring_i" 1008 (.int 3 998), E x "result" 1010 (.int (-1) 1000)] 3), #[]⟩
def o313 (x : X) : Obj := ⟨(T "frame"), none, (.dict #[E x "self" 1148 (R 425), E x "s" 1149 (S "ŝi" 1143), E x "substring_i" 1150 (.int (-1) 1145), E x "result" 1151 (.int (-1) 1147)] 4), #[]⟩
def o314 (x : X) : Obj := ⟨(R 220), (some 409), .plain, #[]⟩
def o315 (x : X) : Obj := ⟨(T "frame"), none, (.dict #[E x "self" 972 (R 389), E x "s" 973 (S "hi" 967), E x "substring_i" 974 (.int (-1) 969), E x "result" 975 (.int (-1) 971)] 4), #[]⟩
def o316 (x : X) : Obj := ⟨(R 220), (some 421), .plain, #[]⟩
def o317 (x : X) : Obj := ⟨(T "dict"), none, (.dict #[E x "s" 1064 (S "oni" 1055), E x "substring_i" 1066 (.int 7 1056), E x "result" 1068 (.int (-1) 1058)] 3), #[]⟩
def o318 (x : X) : Obj := ⟨(R 220), (some 397), .plain, #[]⟩
def o319 (x : X) : Obj := ⟨(T "dict"), none, (.dict #[E x "s" 1181 (S "malŝi" 1172), E x "substring_i" 1183 (.int 14 1173), E x "result" 1185 (.int (-1) 1175)] 3), #[]⟩
def o320 (x : X) : Obj := ⟨(T "frame"), none, (.dict #[E x "self" 1089 (R 413), E x "s" 1090 (S "si" 1084), E x "substring_i" 1091 (.int (-1) 1086), E x "result" 1092 (.int (-1) 1088)] 4), #[]⟩
def o321 (x : X) : Obj := ⟨(T "dict"), none, (.dict #[E x "s" 947 (S "ci" 937), E x "substring_i" 949 (.int (-1) 939), E x "result" 951 (.int (-1) 941)] 3), #[]⟩
def t793 (x : X) : BT := nd (o0 x) (nd (o1 x) (nd (o13 x) (nd (o3 x) (nd (o3 x) (nd (o14 x) (nd (o15 x) (nd (o3 x) (lf (o3 x)) (lf (o269 x))) (nd (o8 x) (lf (o196 x)) .nil)) (nd (o3 x) (nd (o16 x) (lf (o150 x)) (lf (o270 x))) (nd (o17 x) (lf (o197 x)) .nil))) (nd (o18 x) (nd (o8 x) (nd (o19 x) (lf (o151 x)) (lf (o271 x))) (nd (o3 x) (lf (o198 x)) .nil)) (t634 x))) (nd (o22 x) (nd (o3 x) (nd (o3 x) (nd (o8 x) (lf (o8 x)) (lf (o273 x))) (nd (o23 x) (lf (o199 x)) .nil)) (nd (o24 x) (nd (o25 x) (lf (o154 x)) (lf (o274 x))) (nd (o142 x) (lf (o200 x)) .nil))) (nd (o26 x) (nd (o27 x) (nd (o3 x) (lf (o3 x)) (lf (o275 x))) (nd (o28 x) (lf (o201 x)) .nil)) (nd (o29 x) (nd (o3 x) (lf (o202 x)) .nil) (nd (o155 x) (lf (o250 x)) .nil))))) (nd (o3 x) (nd (o30 x) (nd (o31 x) (nd (o3 x) (nd (o32 x) (lf (o156 x)) (lf (o276 x))) (nd (o33 x) (lf (o203 x)) .nil)) (nd (o3 x) (nd (o8 x) (lf (o8 x)) (lf (o277 x))) (nd (⟨(T "dict"), none, (.dict #[E x "__module__" 482 (S "snowballstemmer.esperanto_stemmer" 473), E x "__qualname__" 484 (S "EsperantoStemmer" 483), E x "__firstlineno__" 486 (.int 204 485), E x "g_vowel" 497 (R 232), E x "g_aou" 499 (S "aou" 498), E x "g_digit" 520 (R 233), E x "r_canonical_form" 530 (R 240), E x "r_initial_apostrophe" 537 (R 247), E x "r_pronoun" 545 (R 254), E x "r_final_apostrophe" 553 (R 261), E x "r_ujn_suffix" 562 (R 268), E x "r_uninflected" 569 (R 275), E x "r_merged_numeral" 576 (R 282), E x "r_correlative" 589 (R 289), E x "r_long_word" 598 (R 296), E x "r_standard_suffix" 608 (R 303), E x "_stem" 624 (R 310), E x "a_0" 847 (R 362), E x "a_1" 936 (R 381), E x "a_2" 1186 (R 433)] 20), #[]⟩) (lf (o205 x)) .nil))) (nd (o8 x) (nd (o34 x) (nd (o35 x) (lf (o158 x)) (lf (o279 x))) (nd (o3 x) (lf (o206 x)) .nil)) (nd (o36 x) (t208 x) (nd (o159 x) (lf (o252 x)) .nil)))) (nd (o37 x) (nd (o3 x) (nd (o38 x) (nd (o39 x) (lf (o160 x)) (lf (o280 x))) (nd (o40 x) (lf (o207 x)) .nil)) (nd (o8 x) (nd (o41 x) (lf (o161 x)) (lf (o281 x))) (nd (o8 x) (lf (o253 x)) .nil))) (nd (o42 x) (nd (o43 x) (nd (o3 x) (lf (o3 x)) (lf (o282 x))) (nd (o44 x) (lf (o208 x)) .nil)) (t555 x))))) (nd (o4 x) (nd (o5 x) (nd (o46 x) (nd (o47 x) (nd (o8 x) (nd (o48 x) (lf (o162 x)) (lf (o283 x))) (nd (o3 x) (lf (o210 x)) .nil)) (nd (o49 x) (nd (o50 x) (lf (o163 x)) (lf (o284 x))) (nd (o144 x) (lf (o211 x)) .nil))) (nd (o51 x) (nd (o3 x) (nd (o52 x) (lf (o164 x)) (lf (o285 x))) (nd (o53 x) (lf (o212 x)) .nil)) (nd (o3 x) (nd (o8 x) (lf (o8 x)) (lf (o286 x))) (nd (o3 x) (lf (o255 x)) .nil)))) (nd (o3 x) (nd (o54 x) (nd (o55 x) (nd (o3 x) (lf (o3 x)) (lf (o287 x))) (nd (o56 x) (lf (o213 x)) .nil)) (nd (o57 x) (nd (o3 x) (lf (o3 x)) (lf (o288 x))) (nd x.d (lf (o214 x)) .nil))) (nd (o3 x) (nd (o58 x) (nd (o59 x) (lf (o165 x)) (lf (o289 x))) (nd (o60 x) (lf (o215 x)) .nil)) (nd (o8 x) (nd (o61 x) (lf (o216 x)) .nil) (nd (o8 x) (lf (o256 x)) .nil))))) (nd (o11 x) (nd (o62 x) (nd (o8 x) (nd (o63 x) (nd (o64 x) (lf (o166 x)) (lf (o290 x))) (nd (o65 x) (lf (o217 x)) .nil)) (nd (o66 x) (nd (o3 x) (lf (o3 x)) (lf (o291 x))) (nd (o167 x) (lf (o218 x)) .nil))) (nd (o3 x) (nd (o3 x) (nd (o8 x) (lf (o8 x)) (lf (o292 x))) (nd (o67 x) (lf (o219 x)) .nil)) (t570 x))) (nd (o3 x) (nd (o70 x) (nd (o71 x) (nd (o3 x) (lf (o3 x)) (lf (o293 x))) (nd (o22 x) (lf (o220 x)) .nil)) (nd (o3 x) (nd (o72 x) (lf (o170 x)) (lf (o294 x))) (nd (o3 x) (lf (o258 x)) .nil))) (nd (o73 x) (nd (o8 x) (nd (o74 x) (lf (o171 x)) (lf (o295 x))) (nd (o75 x) (lf (o221 x)) .nil)) (nd (o76 x) (nd (o77 x) (lf (o222 x)) .nil) (nd (o172 x) (lf (o259 x)) .nil))))))) (nd (o6 x) (nd (o7 x) (nd (o8 x) (nd (o8 x) (nd (o3 x) (nd (o3 x) (nd (o8 x) (lf (o8 x)) (lf (o296 x))) (nd (o78 x) (lf (o223 x)) .nil)) (nd (o79 x) (nd (o80 x) (lf (o173 x)) (lf (o297 x))) (nd (o81 x) (lf (o224 x)) .nil))) (nd (o82 x) (nd (o83 x) (nd (o3 x) (lf (o3 x)) (lf (o298 x))) (nd (o84 x) (lf (o225 x)) .nil)) (nd (o85 x) (nd (o3 x) (lf (o3 x)) (lf (o299 x))) (nd (o174 x) (lf (o260 x)) .nil)))) (nd (o86 x) (nd (o87 x) (nd (o8 x) (nd (o88 x) (lf (o175 x)) (lf (o300 x))) (nd (o89 x) (lf (o226 x)) .nil)) (nd (o90 x) (nd (o91 x) (lf (o176 x)) (lf (o301 x))) (nd x.v (lf (o227 x)) .nil))) (nd (o92 x) (nd (o3 x) (nd (o93 x) (lf (o177 x)) (lf (o302 x))) (nd (o94 x) (lf (o228 x)) .nil)) (t588 x)))) (nd (o145 x) (nd (o96 x) (nd (o3 x) (nd (o97 x) (nd (o98 x) (lf (o178 x)) (lf (o303 x))) (nd (o99 x) (lf (o230 x)) .nil)) (nd (o8 x) (nd (o100 x) (lf (o179 x)) (lf (o304 x))) (nd (o3 x) (lf (o231 x)) .nil))) (nd (o101 x) (nd (o102 x) (nd (o3 x) (lf (o3 x)) (lf (o305 x))) (nd (o8 x) (lf (o232 x)) .nil)) (nd (o3 x) (nd (o103 x) (lf (o180 x)) .nil) (nd (o3 x) (lf (o262 x)) .nil)))) (nd (o104 x) (nd (o8 x) (nd (o105 x) (nd (o106 x) (lf (o181 x)) (lf (o306 x))) (nd (o3 x) (lf (o233 x)) .nil)) (nd (o107 x) (nd (o3 x) (lf (o3 x)) (lf (o307 x))) (nd (o182 x) (lf (⟨(R 220), (some 363), .plain, #[]⟩)) .nil))) (nd (o3 x) (nd (o3 x) (nd (o8 x) (lf (o8 x)) (lf (o308 x))) (nd (o108 x) (lf (o234 x)) .nil)) (nd (o109 x) (nd (o110 x) (lf (o235 x)) .nil) (nd (o183 x) (lf (o264 x)) .nil)))))) (nd (o9 x) (nd (o10 x) (nd (o3 x) (nd (o111 x) (nd (o112 x) (nd (o3 x) (lf (o3 x)) (lf (o309 x))) (nd (o113 x) (lf (o236 x)) .nil)) (nd (o114 x) (nd (o3 x) (lf (o3 x)) (lf (o310 x))) (nd (o22 x) (lf (o237 x)) .nil))) (nd (o3 x) (nd (o115 x) (nd (o116 x) (lf (o184 x)) (lf (o311 x))) (nd (o117 x) (lf (o238 x)) .nil)) (t606 x))) (nd (o119 x) (nd (o120 x) (nd (o3 x) (nd (o121 x) (lf (o186 x)) (lf (o312 x))) (nd (o122 x) (lf (o239 x)) .nil)) (nd (o3 x) (nd (o8 x) (lf (o8 x)) (lf (o313 x))) (nd (o3 x) (lf (o240 x)) .nil))) (nd (o8 x) (nd (o123 x) (nd (o124 x) (lf (o187 x)) (lf (o314 x))) (nd (o125 x) (lf (o241 x)) .nil)) (nd (o126 x) (nd (o3 x) (lf (o242 x)) .nil) (nd (o188 x) (lf (o266 x)) .nil))))) (nd (o12 x) (nd (o3 x) (nd (o127 x) (nd (o128 x) (nd (o3 x) (lf (o3 x)) (lf (o315 x))) (nd (o129 x) (lf (o243 x)) .nil)) (nd (o3 x) (nd (o130 x) (lf (o189 x)) (lf (o316 x))) (nd (o146 x) (lf (o244 x)) .nil))) (nd (o131 x) (nd (o8 x) (nd (o132 x) (lf (o190 x)) (lf (o317 x))) (nd (o3 x) (lf (o245 x)) .nil)) (nd (o133 x) (nd (o134 x) (lf (o191 x)) .nil) (nd (o192 x) (lf (o267 x)) .nil)))) (nd (o8 x) (nd (o3 x) (nd (o3 x) (nd (o8 x) (lf (o8 x)) (lf (o318 x))) (nd (o135 x) (lf (o246 x)) .nil)) (nd (o136 x) (nd (o137 x) (lf (o193 x)) (lf (o319 x))) (nd (o194 x) (lf (o268 x)) .nil))) (nd (o138 x) (nd (o139 x) (nd (o3 x) (lf (o3 x)) (lf (o320 x))) (nd (o140 x) (lf (o247 x)) .nil)) (nd (o141 x) (nd (o3 x) (lf (o248 x)) .nil) (nd (o195 x) (lf (o321 x)) .nil)))))))
def sC16 (w : World) (v d : Obj) (os : OsState) : SharedT := ⟨(t793 ⟨w.params, v, d⟩), 434, {}, #[], {}, 1187, os⟩
def o323 (x : X) : Obj := ⟨(T "dict"), none, (.dict #[E x "s" 1418 (S "malgr" 1408), E x "substring_i" 1420 (.int (-1) 1410), E x "result" 1422 (.int (-1) 1412)] 3), #[]⟩
def t798 (x : X) : BT := nd (o14 x) (nd (o15 x) (nd (o3 x) (lf (o3 x)) (lf (o269 x))) (nd (o8 x) (lf (o196 x)) (lf (⟨(R 220), (some 446), .plain, #[]⟩)))) (nd (o3 x) (nd (o16 x) (lf (o150 x)) (lf (o270 x))) (nd (o17 x) (lf (o197 x)) (lf (o323 x))))
def o324 (x : X) : Obj := ⟨(T "frame"), none, (.dict #[E x "self" 1324 (R 462), E x "s" 1325 (S "tutĉirk" 1320), E x "substring_i" 1326 (.int 8 1321), E x "result" 1327 (.int (-1) 1323)] 4), #[]⟩
def t800 (x : X) : BT := nd (o8 x) (nd (o19 x) (lf (o151 x)) (lf (o271 x))) (nd (o3 x) (lf (o198 x)) (lf (o324 x)))
def o325 (x : X) : Obj := ⟨(T "dict"), none, (.dict #[E x "s" 1300 (S "ank" 1290), E x "substring_i" 1302 (.int (-1) 1292), E x "result" 1304 (.int (-1) 1294)] 3), #[]⟩
def o326 (x : X) : Obj := ⟨(T "frame"), none, (.dict #[E x "self" 1443 (R 486), E x "s" 1444 (S "kontr" 1438), E x "substring_i" 1445 (.int (-1) 1440), E x "result" 1446 (.int (-1) 1442)] 4), #[]⟩
def o328 (x : X) : Obj := ⟨(T "frame"), none, (.dict #[E x "self" 1207 (R 438), E x "s" 1208 (S "bald" 1202), E x "substring_i" 1209 (.int (-1) 1204), E x "result" 1210 (.int (-1) 1206)] 4), #[]⟩
def t813 (x : X) : BT := nd (o22 x) (nd (o3 x) (nd (o3 x) (nd (o8 x) (lf (o8 x)) (lf (o273 x))) (nd (o23 x) (lf (o199 x)) (lf (o325 x)))) (nd (o24 x) (nd (o25 x) (lf (o154 x)) (lf (o274 x))) (nd (o142 x) (lf (o200 x)) (lf (o326 x))))) (nd (o26 x) (nd (o27 x) (nd (o3 x) (lf (o3 x)) (lf (o275 x))) (nd (o28 x) (lf (o201 x)) (lf (⟨(R 220), (some 470), .plain, #[]⟩)))) (nd (o29 x) (nd (o3 x) (lf (o202 x)) (lf (o328 x))) (nd (o155 x) (lf (o250 x)) .nil)))
def o329 (x : X) : Obj := ⟨(T "frame"), none, (.dict #[E x "self" 1265 (R 450), E x "s" 1266 (S "adi" 1260), E x "substring_i" 1267 (.int (-1) 1262), E x "result" 1268 (.int (-1) 1264)] 4), #[]⟩
def t816 (x : X) : BT := nd (o3 x) (nd (o32 x) (lf (o156 x)) (lf (o276 x))) (nd (o33 x) (lf (o203 x)) (lf (o329 x)))
def o331 (x : X) : Obj := ⟨(R 220), (some 482), .plain, #[]⟩
def o332 (x : X) : Obj := ⟨(T "dict"), none, (.dict #[E x "s" 1359 (S "almen" 1349), E x "substring_i" 1361 (.int (-1) 1351), E x "result" 1363 (.int (-1) 1353)] 3), #[]⟩
def t821 (x : X) : BT := nd (o34 x) (nd (o35 x) (lf (o158 x)) (lf (o279 x))) (nd (o3 x) (lf (o206 x)) (lf (o332 x)))
def o335 (x : X) : Obj := ⟨(T "dict"), none, (.dict #[E x "s" 1478 (S "kvaz" 1468), E x "substring_i" 1480 (.int (-1) 1470), E x "result" 1482 (.int (-1) 1472)] 3), #[]⟩
def o336 (x : X) : Obj := ⟨(T "frame"), none, (.dict #[E x "self" 1384 (R 474), E x "s" 1385 (S "hier" 1379), E x "substring_i" 1386 (.int (-1) 1381), E x "result" 1387 (.int (-1) 1383)] 4), #[]⟩
def o337 (x : X) : Obj := ⟨(T "dict"), none, (.dict #[E x "s" 1241 (S "morg" 1231), E x "substring_i" 1243 (.int (-1) 1233), E x "result" 1245 (.int (-1) 1235)] 3), #[]⟩
def t836 (x : X) : BT := nd (o37 x) (nd (o3 x) (nd (o38 x) (nd (o39 x) (lf (o160 x)) (lf (o280 x))) (nd (o40 x) (lf (o207 x)) (lf (⟨(R 220), (some 458), .plain, #[]⟩)))) (nd (o8 x) (nd (o41 x) (lf (o161 x)) (lf (o281 x))) (nd (o8 x) (lf (o253 x)) (lf (o335 x))))) (nd (o42 x) (nd (o43 x) (nd (o3 x) (lf (o3 x)) (lf (o282 x))) (nd (o44 x) (lf (o208 x)) (lf (o336 x)))) (nd (o3 x) (nd (o45 x) (lf (o209 x)) (lf (o337 x))) (nd (o3 x) (lf (⟨(R 220), (some 378), .plain, #[]⟩)) .nil)))
def o338 (x : X) : Obj := ⟨(T "dict"), none, (.dict #[E x "s" 1270 (S "adi" 1260), E x "substring_i" 1272 (.int (-1) 1262), E x "result" 1274 (.int (-1) 1264)] 3), #[]⟩
def o339 (x : X) : Obj := ⟨(T "frame"), none, (.dict #[E x "self" 1413 (R 480), E x "s" 1414 (S "malgr" 1408), E x "substring_i" 1415 (.int (-1) 1410), E x "result" 1416 (.int (-1) 1412)] 4), #[]⟩
def t843 (x : X) : BT := nd (o47 x) (nd (o8 x) (nd (o48 x) (lf (o162 x)) (lf (o283 x))) (nd (o3 x) (lf (o210 x)) (lf (o338 x)))) (nd (o49 x) (nd (o50 x) (lf (o163 x)) (lf (o284 x))) (nd (o144 x) (lf (o211 x)) (lf (o339 x))))
def t845 (x : X) : BT := nd (o3 x) (nd (o52 x) (lf (o164 x)) (lf (o285 x))) (nd (o53 x) (lf (o212 x)) (lf (⟨(R 220), (some 464), .plain, #[]⟩)))
def o341 (x : X) : Obj := ⟨(T "frame"), none, (.dict #[E x "self" 1295 (R 456), E x "s" 1296 (S "ank" 1290), E x "substring_i" 1297 (.int (-1) 1292), E x "result" 1298 (.int (-1) 1294)] 4), #[]⟩
def o343 (x : X) : Obj := ⟨(T "dict"), none, (.dict #[E x "s" 1389 (S "hier" 1379), E x "substring_i" 1391 (.int (-1) 1381), E x "result" 1393 (.int (-1) 1383)] 3), #[]⟩
def t858 (x : X) : BT := nd (o3 x) (nd (o54 x) (nd (o55 x) (nd (o3 x) (lf (o3 x)) (lf (o287 x))) (nd (o56 x) (lf (o213 x)) (lf (o341 x)))) (nd (o57 x) (nd (o3 x) (lf (o3 x)) (lf (o288 x))) (nd x.d (lf (o214 x)) (lf (⟨(R 220), (some 488), .plain, #[]⟩))))) (nd (o3 x) (nd (o58 x) (nd (o59 x) (lf (o165 x)) (lf (o289 x))) (nd (o60 x) (lf (o215 x)) (lf (o343 x)))) (nd (o8 x) (nd (o61 x) (lf (o216 x)) (lf (⟨(R 220), (some 440), .plain, #[]⟩))) (nd (o8 x) (lf (o256 x)) .nil)))
def o346 (x : X) : Obj := ⟨(T "dict"), none, (.dict #[E x "s" 1448 (S "kontr" 1438), E x "substring_i" 1450 (.int (-1) 1440), E x "result" 1452 (.int (-1) 1442)] 3), #[]⟩
def t864 (x : X) : BT := nd (o8 x) (nd (o63 x) (nd (o64 x) (lf (o166 x)) (lf (o290 x))) (nd (o65 x) (lf (o217 x)) (lf (⟨(R 220), (some 452), .plain, #[]⟩)))) (nd (o66 x) (nd (o3 x) (lf (o3 x)) (lf (o291 x))) (nd (o167 x) (lf (o218 x)) (lf (o346 x))))
def o347 (x : X) : Obj := ⟨(T "frame"), none, (.dict #[E x "self" 1354 (R 468), E x "s" 1355 (S "almen" 1349), E x "substring_i" 1356 (.int (-1) 1351), E x "result" 1357 (.int (-1) 1353)] 4), #[]⟩
def o348 (x : X) : Obj := ⟨(T "dict"), none, (.dict #[E x "s" 1212 (S "bald" 1202), E x "substring_i" 1214 (.int (-1) 1204), E x "result" 1216 (.int (-1) 1206)] 3), #[]⟩
def o349 (x : X) : Obj := ⟨(T "dict"), none, (.dict #[E x "s" 1329 (S "tutĉirk" 1320), E x "substring_i" 1331 (.int 8 1321), E x "result" 1333 (.int (-1) 1323)] 3), #[]⟩
def o350 (x : X) : Obj := ⟨(T "frame"), none, (.dict #[E x "self" 1473 (R 492), E x "s" 1474 (S "kvaz" 1468), E x "substring_i" 1475 (.int (-1) 1470), E x "result" 1476 (.int (-1) 1472)] 4), #[]⟩
def o352 (x : X) : Obj := ⟨(T "frame"), none, (.dict #[E x "self" 1236 (R 444), E x "s" 1237 (S "morg" 1231), E x "substring_i" 1238 (.int (-1) 1233), E x "result" 1239 (.int (-1) 1235)] 4), #[]⟩
def t881 (x : X) : BT := nd (o3 x) (nd (o70 x) (nd (o71 x) (nd (o3 x) (lf (o3 x)) (lf (o293 x))) (nd (o22 x) (lf (o220 x)) (lf (o349 x)))) (nd (o3 x) (nd (o72 x) (lf (o170 x)) (lf (o294 x))) (nd (o3 x) (lf (o258 x)) (lf (o350 x))))) (nd (o73 x) (nd (o8 x) (nd (o74 x) (lf (o171 x)) (lf (o295 x))) (nd (o75 x) (lf (o221 x)) (lf (⟨(R 220), (some 476), .plain, #[]⟩)))) (nd (o76 x) (nd (o77 x) (lf (o222 x)) (lf (o352 x))) (nd (o172 x) (lf (o259 x)) .nil)))
def o353 (x : X) : Obj := ⟨(T "frame"), none, (.dict #[E x "self" 1250 (R 447), E x "s" 1251 (S "postmorg" 1246), E x "substring_i" 1252 (.int 3 1247), E x "result" 1253 (.int (-1) 1249)] 4), #[]⟩
def t889 (x : X) : BT := nd (o3 x) (nd (o3 x) (nd (o8 x) (lf (o8 x)) (lf (o296 x))) (nd (o78 x) (lf (o223 x)) (lf (o353 x)))) (nd (o79 x) (nd (o80 x) (lf (o173 x)) (lf (o297 x))) (nd (o81 x) (lf (o224 x)) (lf (⟨(R 220), (some 479), .plain, #[]⟩))))
def o355 (x : X) : Obj := ⟨(T "dict"), none, (.dict #[E x "s" 1344 (S "presk" 1334), E x "substring_i" 1346 (.int (-1) 1336), E x "result" 1348 (.int (-1) 1338)] 3), #[]⟩
def o357 (x : X) : Obj := ⟨(T "dict"), none, (.dict #[E x "s" 1463 (S "anstat" 1453), E x "substring_i" 1465 (.int (-1) 1455), E x "result" 1467 (.int (-1) 1457)] 3), #[]⟩
def o358 (x : X) : Obj := ⟨(T "frame"), none, (.dict #[E x "self" 1369 (R 471), E x "s" 1370 (S "apen" 1364), E x "substring_i" 1371 (.int (-1) 1366), E x "result" 1372 (.int (-1) 1368)] 4), #[]⟩
def o359 (x : X) : Obj := ⟨(T "dict"), none, (.dict #[E x "s" 1226 (S "malbald" 1217), E x "substring_i" 1228 (.int 1 1218), E x "result" 1230 (.int (-1) 1220)] 3), #[]⟩
def t904 (x : X) : BT := nd (o86 x) (nd (o87 x) (nd (o8 x) (nd (o88 x) (lf (o175 x)) (lf (o300 x))) (nd (o89 x) (lf (o226 x)) (lf (⟨(R 220), (some 455), .plain, #[]⟩)))) (nd (o90 x) (nd (o91 x) (lf (o176 x)) (lf (o301 x))) (nd x.v (lf (o227 x)) (lf (o357 x))))) (nd (o92 x) (nd (o3 x) (nd (o93 x) (lf (o177 x)) (lf (o302 x))) (nd (o94 x) (lf (o228 x)) (lf (o358 x)))) (nd (o3 x) (nd (o8 x) (lf (o229 x)) (lf (o359 x))) (nd (o3 x) (lf (⟨(R 220), (some 375), .plain, #[]⟩)) .nil)))
def o360 (x : X) : Obj := ⟨(T "dict"), none, (.dict #[E x "s" 1285 (S "hodi" 1275), E x "substring_i" 1287 (.int (-1) 1277), E x "result" 1289 (.int (-1) 1279)] 3), #[]⟩
def o361 (x : X) : Obj := ⟨(T "frame"), none, (.dict #[E x "self" 1428 (R 483), E x "s" 1429 (S "ankor" 1423), E x "substring_i" 1430 (.int (-1) 1425), E x "result" 1431 (.int (-1) 1427)] 4), #[]⟩
def t910 (x : X) : BT := nd (o3 x) (nd (o97 x) (nd (o98 x) (lf (o178 x)) (lf (o303 x))) (nd (o99 x) (lf (o230 x)) (lf (o360 x)))) (nd (o8 x) (nd (o100 x) (lf (o179 x)) (lf (o304 x))) (nd (o3 x) (lf (o231 x)) (lf (o361 x))))
def t912 (x : X) : BT := nd (o102 x) (nd (o3 x) (lf (o3 x)) (lf (o305 x))) (nd (o8 x) (lf (o232 x)) (lf (⟨(R 220), (some 467), .plain, #[]⟩)))
def o363 (x : X) : Obj := ⟨(T "frame"), none, (.dict #[E x "self" 1192 (R 435), E x "s" 1193 (S "amb" 1187), E x "substring_i" 1194 (.int (-1) 1189), E x "result" 1195 (.int (-1) 1191)] 4), #[]⟩
def o364 (x : X) : Obj := ⟨(T "frame"), none, (.dict #[E x "self" 1310 (R 459), E x "s" 1311 (S "ĉirk" 1305), E x "substring_i" 1312 (.int (-1) 1307), E x "result" 1313 (.int (-1) 1309)] 4), #[]⟩
def t919 (x : X) : BT := nd (o182 x) (lf (⟨(R 220), (some 363), .plain, #[]⟩)) (lf (⟨(R 220), (some 491), .plain, #[]⟩))
def o366 (x : X) : Obj := ⟨(T "dict"), none, (.dict #[E x "s" 1403 (S "antaŭhier" 1394), E x "substring_i" 1405 (.int 13 1395), E x "result" 1407 (.int (-1) 1397)] 3), #[]⟩
def t927 (x : X) : BT := nd (o104 x) (nd (o8 x) (nd (o105 x) (nd (o106 x) (lf (o181 x)) (lf (o306 x))) (nd (o3 x) (lf (o233 x)) (lf (o364 x)))) (nd (o107 x) (nd (o3 x) (lf (o3 x)) (lf (o307 x))) (t919 x))) (nd (o3 x) (nd (o3 x) (nd (o8 x) (lf (o8 x)) (lf (o308 x))) (nd (o108 x) (lf (o234 x)) (lf (o366 x)))) (nd (o109 x) (nd (o110 x) (lf (o235 x)) (lf (⟨(R 220), (some 443), .plain, #[]⟩))) (nd (o183 x) (lf (o264 x)) .nil)))
def o369 (x : X) : Obj := ⟨(T "dict"), none, (.dict #[E x "s" 1433 (S "ankor" 1423), E x "substring_i" 1435 (.int (-1) 1425), E x "result" 1437 (.int (-1) 1427)] 3), #[]⟩
def t934 (x : X) : BT := nd (o111 x) (nd (o112 x) (nd (o3 x) (lf (o3 x)) (lf (o309 x))) (nd (o113 x) (lf (o236 x)) (lf (⟨(R 220), (some 449), .plain, #[]⟩)))) (nd (o114 x) (nd (o3 x) (lf (o3 x)) (lf (o310 x))) (nd (o22 x) (lf (o237 x)) (lf (o369 x))))
def o370 (x : X) : Obj := ⟨(T "frame"), none, (.dict #[E x "self" 1339 (R 465), E x "s" 1340 (S "presk" 1334), E x "substring_i" 1341 (.int (-1) 1336), E x "result" 1342 (.int (-1) 1338)] 4), #[]⟩
def t936 (x : X) : BT := nd (o115 x) (nd (o116 x) (lf (o184 x)) (lf (o311 x))) (nd (o117 x) (lf (o238 x)) (lf (o370 x)))
def o371 (x : X) : Obj := ⟨(T "dict"), none, (.dict #[E x "s" 1197 (S "amb" 1187), E x "substring_i" 1199 (.int (-1) 1189), E x "result" 1201 (.int (-1) 1191)] 3), #[]⟩
def o372 (x : X) : Obj := ⟨(T "dict"), none, (.dict #[E x "s" 1315 (S "ĉirk" 1305), E x "substring_i" 1317 (.int (-1) 1307), E x "result" 1319 (.int (-1) 1309)] 3), #[]⟩
def o373 (x : X) : Obj := ⟨(T "frame"), none, (.dict #[E x "self" 1458 (R 489), E x "s" 1459 (S "anstat" 1453), E x "substring_i" 1460 (.int (-1) 1455), E x "result" 1461 (.int (-1) 1457)] 4), #[]⟩
def o375 (x : X) : Obj := ⟨(T "frame"), none, (.dict #[E x "self" 1221 (R 441), E x "s" 1222 (S "malbald" 1217), E x "substring_i" 1223 (.int 1 1218), E x "result" 1224 (.int (-1) 1220)] 4), #[]⟩
def t951 (x : X) : BT := nd (o119 x) (nd (o120 x) (nd (o3 x) (nd (o121 x) (lf (o186 x)) (lf (o312 x))) (nd (o122 x) (lf (o239 x)) (lf (o372 x)))) (nd (o3 x) (nd (o8 x) (lf (o8 x)) (lf (o313 x))) (nd (o3 x) (lf (o240 x)) (lf (o373 x))))) (nd (o8 x) (nd (o123 x) (nd (o124 x) (lf (o187 x)) (lf (o314 x))) (nd (o125 x) (lf (o241 x)) (lf (⟨(R 220), (some 473), .plain, #[]⟩)))) (nd (o126 x) (nd (o3 x) (lf (o242 x)) (lf (o375 x))) (nd (o188 x) (lf (o266 x)) .nil)))
def o376 (x : X) : Obj := ⟨(T "frame"), none, (.dict #[E x "self" 1280 (R 453), E x "s" 1281 (S "hodi" 1275), E x "substring_i" 1282 (.int (-1) 1277), E x "result" 1283 (.int (-1) 1279)] 4), #[]⟩
def o378 (x : X) : Obj := ⟨(T "dict"), none, (.dict #[E x "s" 1374 (S "apen" 1364), E x "substring_i" 1376 (.int (-1) 1366), E x "result" 1378 (.int (-1) 1368)] 3), #[]⟩
def o381 (x : X) : Obj := ⟨(T "list"), none, (.seq #[(R 435), (R 438), (R 441), (R 444), (R 447), (R 450), (R 453), (R 456), (R 459), (R 462), (R 465), (R 468), (R 471), (R 474), (R 477), (R 480), (R 483), (R 486), (R 489), (R 492)] 0), #[]⟩
def o382 (x : X) : Obj := ⟨(T "frame"), none, (.dict #[E x "self" 1398 (R 477), E x "s" 1399 (S "antaŭhier" 1394), E x "substring_i" 1400 (.int 13 1395), E x "result" 1401 (.int (-1) 1397)] 4), #[]⟩
def o383 (x : X) : Obj := ⟨(T "dict"), none, (.dict #[E x "s" 1255 (S "postmorg" 1246), E x "substring_i" 1257 (.int 3 1247), E x "result" 1259 (.int (-1) 1249)] 3), #[]⟩
def t975 (x : X) : BT := nd (o12 x) (nd (o3 x) (nd (o127 x) (nd (o128 x) (nd (o3 x) (lf (o3 x)) (lf (o315 x))) (nd (o129 x) (lf (o243 x)) (lf (o376 x)))) (nd (o3 x) (nd (o130 x) (lf (o189 x)) (lf (o316 x))) (nd (o146 x) (lf (o244 x)) (lf (⟨(R 220), (some 485), .plain, #[]⟩))))) (nd (o131 x) (nd (o8 x) (nd (o132 x) (lf (o190 x)) (lf (o317 x))) (nd (o3 x) (lf (o245 x)) (lf (o378 x)))) (nd (o133 x) (nd (o134 x) (lf (o191 x)) (lf (⟨(R 220), (some 437), .plain, #[]⟩))) (nd (o192 x) (lf (o267 x)) .nil)))) (nd (o8 x) (nd (o3 x) (nd (o3 x) (nd (o8 x) (lf (o8 x)) (lf (o318 x))) (nd (o135 x) (lf (o246 x)) (lf (⟨(R 220), (some 461), .plain, #[]⟩)))) (nd (o136 x) (nd (o137 x) (lf (o193 x)) (lf (o319 x))) (nd (o194 x) (lf (o268 x)) (lf (o381 x))))) (nd (o138 x) (nd (o139 x) (nd (o3 x) (lf (o3 x)) (lf (o320 x))) (nd (o140 x) (lf (o247 x)) (lf (o382 x)))) (nd (o141 x) (nd (o3 x) (lf (o248 x)) (lf (o383 x))) (nd (o195 x) (lf (o321 x)) .nil))))
def t978 (x : X) : BT := nd (o0 x) (nd (o1 x) (nd (o13 x) (nd (o3 x) (nd (o3 x) (t798 x) (nd (o18 x) (t800 x) (t634 x))) (t813 x)) (nd (o3 x) (nd (o30 x) (nd (o31 x) (t816 x) (nd (o3 x) (nd (o8 x) (lf (o8 x)) (lf (o277 x))) (nd (⟨(T "dict"), none, (.dict #[E x "__module__" 482 (S "snowballstemmer.esperanto_stemmer" 473), E x "__qualname__" 484 (S "EsperantoStemmer" 483), E x "__firstlineno__" 486 (.int 204 485), E x "g_vowel" 497 (R 232), E x "g_aou" 499 (S "aou" 498), E x "g_digit" 520 (R 233), E x "r_canonical_form" 530 (R 240), E x "r_initial_apostrophe" 537 (R 247), E x "r_pronoun" 545 (R 254), E x "r_final_apostrophe" 553 (R 261), E x "r_ujn_suffix" 562 (R 268), E x "r_uninflected" 569 (R 275), E x "r_merged_numeral" 576 (R 282), E x "r_correlative" 589 (R 289), E x "r_long_word" 598 (R 296), E x "r_standard_suffix" 608 (R 303), E x "_stem" 624 (R 310), E x "a_0" 847 (R 362), E x "a_1" 936 (R 381), E x "a_2" 1186 (R 433), E x "a_3" 1483 (R 494)] 21), #[]⟩) (lf (o205 x)) (lf (o331 x))))) (nd (o8 x) (t821 x) (nd (o36 x) (nd (o3 x) (lf (o3 x)) (lf (⟨(R 220), (some 434), .plain, #[]⟩))) (nd (o159 x) (lf (o252 x)) .nil)))) (t836 x))) (nd (o4 x) (nd (o5 x) (nd (o46 x) (t843 x) (nd (o51 x) (t845 x) (nd (o3 x) (nd (o8 x) (lf (o8 x)) (lf (o286 x))) (nd (o3 x) (lf (o255 x)) .nil)))) (t858 x)) (nd (o11 x) (nd (o62 x) (t864 x) (nd (o3 x) (nd (o3 x) (nd (o8 x) (lf (o8 x)) (lf (o292 x))) (nd (o67 x) (lf (o219 x)) (lf (o347 x)))) (nd (o68 x) (nd (o69 x) (lf (o168 x)) (lf (o348 x))) (nd (o169 x) (lf (⟨(R 220), (some 372), .plain, #[]⟩)) .nil)))) (t881 x)))) (nd (o6 x) (nd (o7 x) (nd (o8 x) (nd (o8 x) (t889 x) (nd (o82 x) (nd (o83 x) (nd (o3 x) (lf (o3 x)) (lf (o298 x))) (nd (o84 x) (lf (o225 x)) (lf (o355 x)))) (nd (o85 x) (nd (o3 x) (lf (o3 x)) (lf (o299 x))) (nd (o174 x) (lf (o260 x)) .nil)))) (t904 x)) (nd (o145 x) (nd (o96 x) (t910 x) (nd (o101 x) (t912 x) (nd (o3 x) (nd (o103 x) (lf (o180 x)) (lf (o363 x))) (nd (o3 x) (lf (o262 x)) .nil)))) (t927 x))) (nd (o9 x) (nd (o10 x) (nd (o3 x) (t934 x) (nd (o3 x) (t936 x) (nd (o8 x) (nd (o118 x) (lf (o185 x)) (lf (o371 x))) (nd (o8 x) (lf (⟨(R 220), (some 369), .plain, #[]⟩)) .nil)))) (t951 x)) (t975 x)))
def sC17 (w : World) (v d : Obj) (os : OsState) : SharedT := ⟨(t978 ⟨w.params, v, d⟩), 495, {}, #[], {}, 1484, os⟩
def o384 (x : X) : Obj := ⟨(T "dict"), none, (.dict #[E x "s" 1494 (S "aliu" 1484), E x "substring_i" 1496 (.int (-1) 1486), E x "result" 1498 (.int (-1) 1488)] 3), #[]⟩
def o386 (x : X) : Obj := ⟨(R 220), (some 498), .plain, #[]⟩
def o387 (x : X) : Obj := ⟨(T "frame"), none, (.dict #[E x "self" 1489 (R 496), E x "s" 1490 (S "aliu" 1484), E x "substring_i" 1491 (.int (-1) 1486), E x "result" 1492 (.int (-1) 1488)] 4), #[]⟩
def o388 (x : X) : Obj := ⟨(T "list"), none, (.seq #[(R 496), (R 499)] 0), #[]⟩
def o389 (x : X) : Obj := ⟨(R 220), (some 495), .plain, #[]⟩
def o390 (x : X) : Obj := ⟨(T "frame"), none, (.dict #[E x "self" 1504 (R 499), E x "s" 1505 (S "unu" 1499), E x "substring_i" 1506 (.int (-1) 1501), E x "result" 1507 (.int (-1) 1503)] 4), #[]⟩
def o391 (x : X) : Obj := ⟨(T "dict"), none, (.dict #[E x "s" 1509 (S "unu" 1499), E x "substring_i" 1511 (.int (-1) 1501), E x "result" 1513 (.int (-1) 1503)] 3), #[]⟩
def t1023 (x : X) : BT := nd (o0 x) (nd (o1 x) (nd (o13 x) (nd (o3 x) (nd (o3 x) (t798 x) (nd (o18 x) (t800 x) (nd (o20 x) (nd (o21 x) (lf (o152 x)) (lf (o272 x))) (nd (o153 x) (lf (⟨(R 220), (some 366), .plain, #[]⟩)) (lf (o384 x)))))) (t813 x)) (nd (o3 x) (nd (o30 x) (nd (o31 x) (t816 x) (nd (o3 x) (nd (o8 x) (lf (o8 x)) (lf (o277 x))) (nd (⟨(T "dict"), none, (.dict #[E x "__module__" 482 (S "snowballstemmer.esperanto_stemmer" 473), E x "__qualname__" 484 (S "EsperantoStemmer" 483), E x "__firstlineno__" 486 (.int 204 485), E x "g_vowel" 497 (R 232), E x "g_aou" 499 (S "aou" 498), E x "g_digit" 520 (R 233), E x "r_canonical_form" 530 (R 240), E x "r_initial_apostrophe" 537 (R 247), E x "r_pronoun" 545 (R 254), E x "r_final_apostrophe" 553 (R 261), E x "r_ujn_suffix" 562 (R 268), E x "r_uninflected" 569 (R 275), E x "r_merged_numeral" 576 (R 282), E x "r_correlative" 589 (R 289), E x "r_long_word" 598 (R 296), E x "r_standard_suffix" 608 (R 303), E x "_stem" 624 (R 310), E x "a_0" 847 (R 362), E x "a_1" 936 (R 381), E x "a_2" 1186 (R 433), E x "a_3" 1483 (R 494), E x "a_4" 1514 (R 501)] 22), #[]⟩) (lf (o205 x)) (lf (o331 x))))) (nd (o8 x) (t821 x) (nd (o36 x) (nd (o3 x) (lf (o3 x)) (lf (⟨(R 220), (some 434), .plain, #[]⟩))) (nd (o159 x) (lf (o252 x)) (lf (o386 x)))))) (t836 x))) (nd (o4 x) (nd (o5 x) (nd (o46 x) (t843 x) (nd (o51 x) (t845 x) (nd (o3 x) (nd (o8 x) (lf (o8 x)) (lf (o286 x))) (nd (o3 x) (lf (o255 x)) (lf (o387 x)))))) (t858 x)) (nd (o11 x) (nd (o62 x) (t864 x) (nd (o3 x) (nd (o3 x) (nd (o8 x) (lf (o8 x)) (lf (o292 x))) (nd (o67 x) (lf (o219 x)) (lf (o347 x)))) (nd (o68 x) (nd (o69 x) (lf (o168 x)) (lf (o348 x))) (nd (o169 x) (lf (⟨(R 220), (some 372), .plain, #[]⟩)) (lf (o388 x)))))) (t881 x)))) (nd (o6 x) (nd (o7 x) (nd (o8 x) (nd (o8 x) (t889 x) (nd (o82 x) (nd (o83 x) (nd (o3 x) (lf (o3 x)) (lf (o298 x))) (nd (o84 x) (lf (o225 x)) (lf (o355 x)))) (nd (o85 x) (nd (o3 x) (lf (o3 x)) (lf (o299 x))) (nd (o174 x) (lf (o260 x)) (lf (o389 x)))))) (t904 x)) (nd (o145 x) (nd (o96 x) (t910 x) (nd (o101 x) (t912 x) (nd (o3 x) (nd (o103 x) (lf (o180 x)) (lf (o363 x))) (nd (o3 x) (lf (o262 x)) (lf (o390 x)))))) (t927 x))) (nd (o9 x) (nd (o10 x) (nd (o3 x) (t934 x) (nd (o3 x) (t936 x) (nd (o8 x) (nd (o118 x) (lf (o185 x)) (lf (o371 x))) (nd (o8 x) (lf (⟨(R 220), (some 369), .plain, #[]⟩)) (lf (o391 x)))))) (t951 x)) (t975 x)))
def sC18 (w : World) (v d : Obj) (os : OsState) : SharedT := ⟨(t1023 ⟨w.params, v, d⟩), 502, {}, #[], {}, 1515, os⟩
def o392 (x : X) : Obj := ⟨(T "dict"), none, (.dict #[E x "s" 1569 (S "hola" 1559), E x "substring_i" 1571 (.int (-1) 1561), E x "result" 1573 (.int (-1) 1563)] 3), #[]⟩
def t1027 (x : X) : BT := nd (o150 x) (lf (⟨(T "frame"), none, (.dict #[E x "self" 1714 (R 542), E x "s" 1715 (S "dirlididi" 1709), E x "substring_i" 1716 (.int (-1) 1711), E x "result" 1717 (.int (-1) 1713)] 4), #[]⟩)) .nil
def o395 (x : X) : Obj := ⟨(T "dict"), none, (.dict #[E x "s" 1808 (S "oho" 1798), E x "substring_i" 1810 (.int (-1) 1800), E x "result" 1812 (.int (-1) 1802)] 3), #[]⟩
def t1036 (x : X) : BT := nd (o20 x) (nd (o21 x) (nd (o152 x) (lf (o395 x)) .nil) (lf (o272 x))) (nd (o153 x) (lf (⟨(R 220), (some 366), .plain, #[]⟩)) (lf (o384 x)))
def o396 (x : X) : Obj := ⟨(T "frame"), none, (.dict #[E x "self" 1594 (R 518), E x "s" 1595 (S "maltra" 1589), E x "substring_i" 1596 (.int (-1) 1591), E x "result" 1597 (.int (-1) 1593)] 4), #[]⟩
def t1044 (x : X) : BT := nd (o24 x) (nd (o25 x) (nd (o154 x) (lf (⟨(R 220), (some 550), .plain, #[]⟩)) .nil) (lf (o274 x))) (nd (o142 x) (lf (o200 x)) (lf (o326 x)))
def o398 (x : X) : Obj := ⟨(T "dict"), none, (.dict #[E x "s" 1689 (S "ehe" 1679), E x "substring_i" 1691 (.int (-1) 1681), E x "result" 1693 (.int (-1) 1683)] 3), #[]⟩
def t1049 (x : X) : BT := nd (o202 x) (lf (⟨(T "frame"), none, (.dict #[E x "self" 1833 (R 566), E x "s" 1834 (S "minus" 1828), E x "substring_i" 1835 (.int (-1) 1830), E x "result" 1836 (.int (-1) 1832)] 4), #[]⟩)) .nil
def o400 (x : X) : Obj := ⟨(R 220), (some 502), .plain, #[]⟩
def o402 (x : X) : Obj := ⟨(T "dict"), none, (.dict #[E x "s" 1749 (S "malĉi" 1739), E x "substring_i" 1751 (.int (-1) 1741), E x "result" 1753 (.int (-1) 1743)] 3), #[]⟩
def t1060 (x : X) : BT := nd (o8 x) (nd (o8 x) (lf (o402 x)) .nil) (lf (o277 x))
def t1064 (x : X) : BT := nd (o158 x) (lf (⟨(T "frame"), none, (.dict #[E x "self" 1654 (R 530), E x "s" 1655 (S "elde" 1649), E x "substring_i" 1656 (.int (-1) 1651), E x "result" 1657 (.int (-1) 1653)] 4), #[]⟩)) .nil
def t1068 (x : X) : BT := nd (o3 x) (nd (o3 x) (lf (⟨(R 220), (some 562), .plain, #[]⟩)) .nil) (lf (⟨(R 220), (some 434), .plain, #[]⟩))
def o406 (x : X) : Obj := ⟨(T "dict"), none, (.dict #[E x "s" 1629 (S "ĥaĥa" 1619), E x "substring_i" 1631 (.int (-1) 1621), E x "result" 1633 (.int (-1) 1623)] 3), #[]⟩
def t1075 (x : X) : BT := nd (o161 x) (lf (⟨(T "frame"), none, (.dict #[E x "self" 1774 (R 554), E x "s" 1775 (S "amen" 1769), E x "substring_i" 1776 (.int (-1) 1771), E x "result" 1777 (.int (-1) 1773)] 4), #[]⟩)) .nil
def o409 (x : X) : Obj := ⟨(T "dict"), none, (.dict #[E x "s" 1868 (S "muu" 1858), E x "substring_i" 1870 (.int (-1) 1860), E x "result" 1872 (.int (-1) 1862)] 3), #[]⟩
def o410 (x : X) : Obj := ⟨(T "frame"), none, (.dict #[E x "self" 1534 (R 506), E x "s" 1535 (S "haha" 1530), E x "substring_i" 1536 (.int 0 1531), E x "result" 1537 (.int (-1) 1533)] 4), #[]⟩
def t1085 (x : X) : BT := nd (o3 x) (nd (o45 x) (nd (o209 x) (lf (o409 x)) .nil) (lf (o337 x))) (nd (o3 x) (lf (⟨(R 220), (some 378), .plain, #[]⟩)) (lf (o410 x)))
def o411 (x : X) : Obj := ⟨(T "frame"), none, (.dict #[E x "self" 1564 (R 512), E x "s" 1565 (S "hola" 1559), E x "substring_i" 1566 (.int (-1) 1561), E x "result" 1567 (.int (-1) 1563)] 4), #[]⟩
def o413 (x : X) : Obj := ⟨(T "dict"), none, (.dict #[E x "s" 1659 (S "elde" 1649), E x "substring_i" 1661 (.int (-1) 1651), E x "result" 1663 (.int (-1) 1653)] 3), #[]⟩
def t1100 (x : X) : BT := nd (o8 x) (lf (⟨(T "frame"), none, (.dict #[E x "self" 1803 (R 560), E x "s" 1804 (S "oho" 1798), E x "substring_i" 1805 (.int (-1) 1800), E x "result" 1806 (.int (-1) 1802)] 4), #[]⟩)) .nil
def o416 (x : X) : Obj := ⟨(T "dict"), none, (.dict #[E x "s" 1779 (S "amen" 1769), E x "substring_i" 1781 (.int (-1) 1771), E x "result" 1783 (.int (-1) 1773)] 3), #[]⟩
def t1110 (x : X) : BT := nd (o57 x) (nd (o3 x) (nd (o3 x) (lf (o416 x)) .nil) (lf (o288 x))) (nd x.d (lf (o214 x)) (lf (⟨(R 220), (some 488), .plain, #[]⟩)))
def t1112 (x : X) : BT := nd (o165 x) (lf (⟨(T "frame"), none, (.dict #[E x "self" 1684 (R 536), E x "s" 1685 (S "ehe" 1679), E x "substring_i" 1686 (.int (-1) 1681), E x "result" 1687 (.int (-1) 1683)] 4), #[]⟩)) .nil
def t1116 (x : X) : BT := nd (o61 x) (nd (o216 x) (lf (⟨(R 220), (some 568), .plain, #[]⟩)) .nil) (lf (⟨(R 220), (some 440), .plain, #[]⟩))
def o419 (x : X) : Obj := ⟨(T "dict"), none, (.dict #[E x "s" 1539 (S "haha" 1530), E x "substring_i" 1541 (.int 0 1531), E x "result" 1543 (.int (-1) 1533)] 3), #[]⟩
def o420 (x : X) : Obj := ⟨(T "dict"), none, (.dict #[E x "s" 1599 (S "maltra" 1589), E x "substring_i" 1601 (.int (-1) 1591), E x "result" 1603 (.int (-1) 1593)] 3), #[]⟩
def t1125 (x : X) : BT := nd (o3 x) (lf (⟨(T "frame"), none, (.dict #[E x "self" 1744 (R 548), E x "s" 1745 (S "malĉi" 1739), E x "substring_i" 1746 (.int (-1) 1741), E x "result" 1747 (.int (-1) 1743)] 4), #[]⟩)) .nil
def o423 (x : X) : Obj := ⟨(T "dict"), none, (.dict #[E x "s" 1838 (S "minus" 1828), E x "substring_i" 1840 (.int (-1) 1830), E x "result" 1842 (.int (-1) 1832)] 3), #[]⟩
def t1134 (x : X) : BT := nd (o68 x) (nd (o69 x) (nd (o168 x) (lf (o423 x)) .nil) (lf (o348 x))) (nd (o169 x) (lf (⟨(R 220), (some 372), .plain, #[]⟩)) (lf (o388 x)))
def o424 (x : X) : Obj := ⟨(T "frame"), none, (.dict #[E x "self" 1624 (R 524), E x "s" 1625 (S "ĥaĥa" 1619), E x "substring_i" 1626 (.int (-1) 1621), E x "result" 1627 (.int (-1) 1623)] 4), #[]⟩
def t1142 (x : X) : BT := nd (o3 x) (nd (o72 x) (nd (o170 x) (lf (⟨(R 220), (some 556), .plain, #[]⟩)) .nil) (lf (o294 x))) (nd (o3 x) (lf (o258 x)) (lf (o350 x)))
def o426 (x : X) : Obj := ⟨(T "dict"), none, (.dict #[E x "s" 1719 (S "dirlididi" 1709), E x "substring_i" 1721 (.int (-1) 1711), E x "result" 1723 (.int (-1) 1713)] 3), #[]⟩
def t1147 (x : X) : BT := nd (o222 x) (lf (⟨(T "frame"), none, (.dict #[E x "self" 1863 (R 572), E x "s" 1864 (S "muu" 1858), E x "substring_i" 1865 (.int (-1) 1860), E x "result" 1866 (.int (-1) 1862)] 4), #[]⟩)) .nil
def o428 (x : X) : Obj := ⟨(R 220), (some 508), .plain, #[]⟩
def o430 (x : X) : Obj := ⟨(T "dict"), none, (.dict #[E x "s" 1734 (S "malpli" 1724), E x "substring_i" 1736 (.int (-1) 1726), E x "result" 1738 (.int (-1) 1728)] 3), #[]⟩
def t1163 (x : X) : BT := nd (o3 x) (lf (⟨(T "frame"), none, (.dict #[E x "self" 1639 (R 527), E x "s" 1640 (S "ekde" 1634), E x "substring_i" 1641 (.int (-1) 1636), E x "result" 1642 (.int (-1) 1638)] 4), #[]⟩)) .nil
def t1168 (x : X) : BT := nd (o85 x) (nd (o3 x) (nd (o3 x) (lf (⟨(R 220), (some 559), .plain, #[]⟩)) .nil) (lf (o299 x))) (nd (o174 x) (lf (o260 x)) (lf (o389 x)))
def o433 (x : X) : Obj := ⟨(T "dict"), none, (.dict #[E x "s" 1614 (S "hura" 1604), E x "substring_i" 1616 (.int (-1) 1606), E x "result" 1618 (.int (-1) 1608)] 3), #[]⟩
def t1174 (x : X) : BT := nd (o176 x) (lf (⟨(T "frame"), none, (.dict #[E x "self" 1759 (R 551), E x "s" 1760 (S "malkaj" 1754), E x "substring_i" 1761 (.int (-1) 1756), E x "result" 1762 (.int (-1) 1758)] 4), #[]⟩)) .nil
def o436 (x : X) : Obj := ⟨(T "dict"), none, (.dict #[E x "s" 1853 (S "uhu" 1843), E x "substring_i" 1855 (.int (-1) 1845), E x "result" 1857 (.int (-1) 1847)] 3), #[]⟩
def o437 (x : X) : Obj := ⟨(T "frame"), none, (.dict #[E x "self" 1520 (R 503), E x "s" 1521 (S "aha" 1515), E x "substring_i" 1522 (.int (-1) 1517), E x "result" 1523 (.int (-1) 1519)] 4), #[]⟩
def t1184 (x : X) : BT := nd (o3 x) (nd (o8 x) (nd (o229 x) (lf (o436 x)) .nil) (lf (o359 x))) (nd (o3 x) (lf (⟨(R 220), (some 375), .plain, #[]⟩)) (lf (o437 x)))
def o438 (x : X) : Obj := ⟨(T "frame"), none, (.dict #[E x "self" 1579 (R 515), E x "s" 1580 (S "hosana" 1574), E x "substring_i" 1581 (.int (-1) 1576), E x "result" 1582 (.int (-1) 1578)] 4), #[]⟩
def o440 (x : X) : Obj := ⟨(T "dict"), none, (.dict #[E x "s" 1674 (S "disde" 1664), E x "substring_i" 1676 (.int (-1) 1666), E x "result" 1678 (.int (-1) 1668)] 3), #[]⟩
def t1198 (x : X) : BT := nd (o180 x) (lf (⟨(T "frame"), none, (.dict #[E x "self" 1818 (R 563), E x "s" 1819 (S "maltro" 1813), E x "substring_i" 1820 (.int (-1) 1815), E x "result" 1821 (.int (-1) 1817)] 4), #[]⟩)) .nil
def o443 (x : X) : Obj := ⟨(T "dict"), none, (.dict #[E x "s" 1793 (S "tamen" 1784), E x "substring_i" 1795 (.int 17 1785), E x "result" 1797 (.int (-1) 1787)] 3), #[]⟩
def t1210 (x : X) : BT := nd (o8 x) (lf (⟨(T "frame"), none, (.dict #[E x "self" 1699 (R 539), E x "s" 1700 (S "maltre" 1694), E x "substring_i" 1701 (.int (-1) 1696), E x "result" 1702 (.int (-1) 1698)] 4), #[]⟩)) .nil
def t1214 (x : X) : BT := nd (o110 x) (nd (o235 x) (lf (⟨(R 220), (some 571), .plain, #[]⟩)) .nil) (lf (⟨(R 220), (some 443), .plain, #[]⟩))
def o446 (x : X) : Obj := ⟨(T "dict"), none, (.dict #[E x "s" 1554 (S "haleluja" 1544), E x "substring_i" 1556 (.int (-1) 1546), E x "result" 1558 (.int (-1) 1548)] 3), #[]⟩
def o447 (x : X) : Obj := ⟨(T "dict"), none, (.dict #[E x "s" 1584 (S "hosana" 1574), E x "substring_i" 1586 (.int (-1) 1576), E x "result" 1588 (.int (-1) 1578)] 3), #[]⟩
def t1224 (x : X) : BT := nd (o3 x) (lf (⟨(T "frame"), none, (.dict #[E x "self" 1729 (R 545), E x "s" 1730 (S "malpli" 1724), E x "substring_i" 1731 (.int (-1) 1726), E x "result" 1732 (.int (-1) 1728)] 4), #[]⟩)) .nil
def o450 (x : X) : Obj := ⟨(T "dict"), none, (.dict #[E x "s" 1823 (S "maltro" 1813), E x "substring_i" 1825 (.int (-1) 1815), E x "result" 1827 (.int (-1) 1817)] 3), #[]⟩
def t1233 (x : X) : BT := nd (o8 x) (nd (o118 x) (nd (o185 x) (lf (o450 x)) .nil) (lf (o371 x))) (nd (o8 x) (lf (⟨(R 220), (some 369), .plain, #[]⟩)) (lf (o391 x)))
def o451 (x : X) : Obj := ⟨(T "frame"), none, (.dict #[E x "self" 1609 (R 521), E x "s" 1610 (S "hura" 1604), E x "substring_i" 1611 (.int (-1) 1606), E x "result" 1612 (.int (-1) 1608)] 4), #[]⟩
def t1241 (x : X) : BT := nd (o3 x) (nd (o8 x) (nd (o8 x) (lf (⟨(R 220), (some 553), .plain, #[]⟩)) .nil) (lf (o313 x))) (nd (o3 x) (lf (o240 x)) (lf (o373 x)))
def o453 (x : X) : Obj := ⟨(T "dict"), none, (.dict #[E x "s" 1704 (S "maltre" 1694), E x "substring_i" 1706 (.int (-1) 1696), E x "result" 1708 (.int (-1) 1698)] 3), #[]⟩
def t1246 (x : X) : BT := nd (o242 x) (lf (⟨(T "frame"), none, (.dict #[E x "self" 1848 (R 569), E x "s" 1849 (S "uhu" 1843), E x "substring_i" 1850 (.int (-1) 1845), E x "result" 1851 (.int (-1) 1847)] 4), #[]⟩)) .nil
def o455 (x : X) : Obj := ⟨(R 220), (some 505), .plain, #[]⟩
def o457 (x : X) : Obj := ⟨(T "dict"), none, (.dict #[E x "s" 1764 (S "malkaj" 1754), E x "substring_i" 1766 (.int (-1) 1756), E x "result" 1768 (.int (-1) 1758)] 3), #[]⟩
def t1258 (x : X) : BT := nd (o3 x) (nd (o130 x) (nd (o189 x) (lf (o457 x)) .nil) (lf (o316 x))) (nd (o146 x) (lf (o244 x)) (lf (⟨(R 220), (some 485), .plain, #[]⟩)))
def t1260 (x : X) : BT := nd (o190 x) (lf (⟨(T "frame"), none, (.dict #[E x "self" 1669 (R 533), E x "s" 1670 (S "disde" 1664), E x "substring_i" 1671 (.int (-1) 1666), E x "result" 1672 (.int (-1) 1668)] 4), #[]⟩)) .nil
def t1264 (x : X) : BT := nd (o134 x) (nd (o191 x) (lf (⟨(R 220), (some 565), .plain, #[]⟩)) .nil) (lf (⟨(R 220), (some 437), .plain, #[]⟩))
def o460 (x : X) : Obj := ⟨(T "dict"), none, (.dict #[E x "s" 1525 (S "aha" 1515), E x "substring_i" 1527 (.int (-1) 1517), E x "result" 1529 (.int (-1) 1519)] 3), #[]⟩
def o461 (x : X) : Obj := ⟨(T "dict"), none, (.dict #[E x "s" 1644 (S "ekde" 1634), E x "substring_i" 1646 (.int (-1) 1636), E x "result" 1648 (.int (-1) 1638)] 3), #[]⟩
def t1272 (x : X) : BT := nd (o193 x) (lf (⟨(T "frame"), none, (.dict #[E x "self" 1788 (R 557), E x "s" 1789 (S "tamen" 1784), E x "substring_i" 1790 (.int 17 1785), E x "result" 1791 (.int (-1) 1787)] 4), #[]⟩)) .nil
def o464 (x : X) : Obj := ⟨(T "list"), none, (.seq #[(R 503), (R 506), (R 509), (R 512), (R 515), (R 518), (R 521), (R 524), (R 527), (R 530), (R 533), (R 536), (R 539), (R 542), (R 545), (R 548), (R 551), (R 554), (R 557), (R 560), (R 563), (R 566), (R 569), (R 572)] 0), #[]⟩
def o465 (x : X) : Obj := ⟨(T "frame"), none, (.dict #[E x "self" 1549 (R 509), E x "s" 1550 (S "haleluja" 1544), E x "substring_i" 1551 (.int (-1) 1546), E x "result" 1552 (.int (-1) 1548)] 4), #[]⟩
def t1282 (x : X) : BT := nd (o141 x) (nd (o3 x) (nd (o248 x) (lf (o464 x)) .nil) (lf (o383 x))) (nd (o195 x) (lf (o321 x)) (lf (o465 x)))
def t1288 (x : X) : BT := nd (o0 x) (nd (o1 x) (nd (o13 x) (nd (o3 x) (nd (o3 x) (nd (o14 x) (nd (o15 x) (nd (o3 x) (nd (o3 x) (lf (o392 x)) .nil) (lf (o269 x))) (nd (o8 x) (lf (o196 x)) (lf (⟨(R 220), (some 446), .plain, #[]⟩)))) (nd (o3 x) (nd (o16 x) (t1027 x) (lf (o270 x))) (nd (o17 x) (lf (o197 x)) (lf (o323 x))))) (nd (o18 x) (nd (o8 x) (nd (o19 x) (nd (o151 x) (lf (⟨(R 220), (some 526), .plain, #[]⟩)) .nil) (lf (o271 x))) (nd (o3 x) (lf (o198 x)) (lf (o324 x)))) (t1036 x))) (nd (o22 x) (nd (o3 x) (nd (o3 x) (nd (o8 x) (nd (o8 x) (lf (o396 x)) .nil) (lf (o273 x))) (nd (o23 x) (lf (o199 x)) (lf (o325 x)))) (t1044 x)) (nd (o26 x) (nd (o27 x) (nd (o3 x) (nd (o3 x) (lf (o398 x)) .nil) (lf (o275 x))) (nd (o28 x) (lf (o201 x)) (lf (⟨(R 220), (some 470), .plain, #[]⟩)))) (nd (o29 x) (nd (o3 x) (t1049 x) (lf (o328 x))) (nd (o155 x) (lf (o250 x)) (lf (o400 x))))))) (nd (o3 x) (nd (o30 x) (nd (o31 x) (nd (o3 x) (nd (o32 x) (nd (o156 x) (lf (⟨(R 220), (some 514), .plain, #[]⟩)) .nil) (lf (o276 x))) (nd (o33 x) (lf (o203 x)) (lf (o329 x)))) (nd (o3 x) (t1060 x) (nd (⟨(T "dict"), none, (.dict #[E x "__module__" 482 (S "snowballstemmer.esperanto_stemmer" 473), E x "__qualname__" 484 (S "EsperantoStemmer" 483), E x "__firstlineno__" 486 (.int 204 485), E x "g_vowel" 497 (R 232), E x "g_aou" 499 (S "aou" 498), E x "g_digit" 520 (R 233), E x "r_canonical_form" 530 (R 240), E x "r_initial_apostrophe" 537 (R 247), E x "r_pronoun" 545 (R 254), E x "r_final_apostrophe" 553 (R 261), E x "r_ujn_suffix" 562 (R 268), E x "r_uninflected" 569 (R 275), E x "r_merged_numeral" 576 (R 282), E x "r_correlative" 589 (R 289), E x "r_long_word" 598 (R 296), E x "r_standard_suffix" 608 (R 303), E x "_stem" 624 (R 310), E x "a_0" 847 (R 362), E x "a_1" 936 (R 381), E x "a_2" 1186 (R 433), E x "a_3" 1483 (R 494), E x "a_4" 1514 (R 501), E x "a_5" 1873 (R 574)] 23), #[]⟩) (lf (o205 x)) (lf (o331 x))))) (nd (o8 x) (nd (o34 x) (nd (o35 x) (t1064 x) (lf (o279 x))) (nd (o3 x) (lf (o206 x)) (lf (o332 x)))) (nd (o36 x) (t1068 x) (nd (o159 x) (lf (o252 x)) (lf (o386 x)))))) (nd (o37 x) (nd (o3 x) (nd (o38 x) (nd (o39 x) (nd (o160 x) (lf (o406 x)) .nil) (lf (o280 x))) (nd (o40 x) (lf (o207 x)) (lf (⟨(R 220), (some 458), .plain, #[]⟩)))) (nd (o8 x) (nd (o41 x) (t1075 x) (lf (o281 x))) (nd (o8 x) (lf (o253 x)) (lf (o335 x))))) (nd (o42 x) (nd (o43 x) (nd (o3 x) (nd (o3 x) (lf (⟨(R 220), (some 538), .plain, #[]⟩)) .nil) (lf (o282 x))) (nd (o44 x) (lf (o208 x)) (lf (o336 x)))) (t1085 x))))) (nd (o4 x) (nd (o5 x) (nd (o46 x) (nd (o47 x) (nd (o8 x) (nd (o48 x) (nd (o162 x) (lf (o411 x)) .nil) (lf (o283 x))) (nd (o3 x) (lf (o210 x)) (lf (o338 x)))) (nd (o49 x) (nd (o50 x) (nd (o163 x) (lf (⟨(R 220), (some 544), .plain, #[]⟩)) .nil) (lf (o284 x))) (nd (o144 x) (lf (o211 x)) (lf (o339 x))))) (nd (o51 x) (nd (o3 x) (nd (o52 x) (nd (o164 x) (lf (o413 x)) .nil) (lf (o285 x))) (nd (o53 x) (lf (o212 x)) (lf (⟨(R 220), (some 464), .plain, #[]⟩)))) (nd (o3 x) (nd (o8 x) (t1100 x) (lf (o286 x))) (nd (o3 x) (lf (o255 x)) (lf (o387 x)))))) (nd (o3 x) (nd (o54 x) (nd (o55 x) (nd (o3 x) (nd (o3 x) (lf (⟨(R 220), (some 520), .plain, #[]⟩)) .nil) (lf (o287 x))) (nd (o56 x) (lf (o213 x)) (lf (o341 x)))) (t1110 x)) (nd (o3 x) (nd (o58 x) (nd (o59 x) (t1112 x) (lf (o289 x))) (nd (o60 x) (lf (o215 x)) (lf (o343 x)))) (nd (o8 x) (t1116 x) (nd (o8 x) (lf (o256 x)) (lf (o419 x))))))) (nd (o11 x) (nd (o62 x) (nd (o8 x) (nd (o63 x) (nd (o64 x) (nd (o166 x) (lf (o420 x)) .nil) (lf (o290 x))) (nd (o65 x) (lf (o217 x)) (lf (⟨(R 220), (some 452), .plain, #[]⟩)))) (nd (o66 x) (nd (o3 x) (t1125 x) (lf (o291 x))) (nd (o167 x) (lf (o218 x)) (lf (o346 x))))) (nd (o3 x) (nd (o3 x) (nd (o8 x) (nd (o8 x) (lf (⟨(R 220), (some 532), .plain, #[]⟩)) .nil) (lf (o292 x))) (nd (o67 x) (lf (o219 x)) (lf (o347 x)))) (t1134 x))) (nd (o3 x) (nd (o70 x) (nd (o71 x) (nd (o3 x) (nd (o3 x) (lf (o424 x)) .nil) (lf (o293 x))) (nd (o22 x) (lf (o220 x)) (lf (o349 x)))) (t1142 x)) (nd (o73 x) (nd (o8 x) (nd (o74 x) (nd (o171 x) (lf (o426 x)) .nil) (lf (o295 x))) (nd (o75 x) (lf (o221 x)) (lf (⟨(R 220), (some 476), .plain, #[]⟩)))) (nd (o76 x) (nd (o77 x) (t1147 x) (lf (o352 x))) (nd (o172 x) (lf (o259 x)) (lf (o428 x))))))))) (nd (o6 x) (nd (o7 x) (nd (o8 x) (nd (o8 x) (nd (o3 x) (nd (o3 x) (nd (o8 x) (nd (o8 x) (lf (⟨(R 220), (some 511), .plain, #[]⟩)) .nil) (lf (o296 x))) (nd (o78 x) (lf (o223 x)) (lf (o353 x)))) (nd (o79 x) (nd (o80 x) (nd (o173 x) (lf (o430 x)) .nil) (lf (o297 x))) (nd (o81 x) (lf (o224 x)) (lf (⟨(R 220), (some 479), .plain, #[]⟩))))) (nd (o82 x) (nd (o83 x) (nd (o3 x) (t1163 x) (lf (o298 x))) (nd (o84 x) (lf (o225 x)) (lf (o355 x)))) (t1168 x))) (nd (o86 x) (nd (o87 x) (nd (o8 x) (nd (o88 x) (nd (o175 x) (lf (o433 x)) .nil) (lf (o300 x))) (nd (o89 x) (lf (o226 x)) (lf (⟨(R 220), (some 455), .plain, #[]⟩)))) (nd (o90 x) (nd (o91 x) (t1174 x) (lf (o301 x))) (nd x.v (lf (o227 x)) (lf (o357 x))))) (nd (o92 x) (nd (o3 x) (nd (o93 x) (nd (o177 x) (lf (⟨(R 220), (some 535), .plain, #[]⟩)) .nil) (lf (o302 x))) (nd (o94 x) (lf (o228 x)) (lf (o358 x)))) (t1184 x)))) (nd (o145 x) (nd (o96 x) (nd (o3 x) (nd (o97 x) (nd (o98 x) (nd (o178 x) (lf (o438 x)) .nil) (lf (o303 x))) (nd (o99 x) (lf (o230 x)) (lf (o360 x)))) (nd (o8 x) (nd (o100 x) (nd (o179 x) (lf (⟨(R 220), (some 547), .plain, #[]⟩)) .nil) (lf (o304 x))) (nd (o3 x) (lf (o231 x)) (lf (o361 x))))) (nd (o101 x) (nd (o102 x) (nd (o3 x) (nd (o3 x) (lf (o440 x)) .nil) (lf (o305 x))) (nd (o8 x) (lf (o232 x)) (lf (⟨(R 220), (some 467), .plain, #[]⟩)))) (nd (o3 x) (nd (o103 x) (t1198 x) (lf (o363 x))) (nd (o3 x) (lf (o262 x)) (lf (o390 x)))))) (nd (o104 x) (nd (o8 x) (nd (o105 x) (nd (o106 x) (nd (o181 x) (lf (⟨(R 220), (some 523), .plain, #[]⟩)) .nil) (lf (o306 x))) (nd (o3 x) (lf (o233 x)) (lf (o364 x)))) (nd (o107 x) (nd (o3 x) (nd (o3 x) (lf (o443 x)) .nil) (lf (o307 x))) (t919 x))) (nd (o3 x) (nd (o3 x) (nd (o8 x) (t1210 x) (lf (o308 x))) (nd (o108 x) (lf (o234 x)) (lf (o366 x)))) (nd (o109 x) (t1214 x) (nd (o183 x) (lf (o264 x)) (lf (o446 x)))))))) (nd (o9 x) (nd (o10 x) (nd (o3 x) (nd (o111 x) (nd (o112 x) (nd (o3 x) (nd (o3 x) (lf (o447 x)) .nil) (lf (o309 x))) (nd (o113 x) (lf (o236 x)) (lf (⟨(R 220), (some 449), .plain, #[]⟩)))) (nd (o114 x) (nd (o3 x) (t1224 x) (lf (o310 x))) (nd (o22 x) (lf (o237 x)) (lf (o369 x))))) (nd (o3 x) (nd (o115 x) (nd (o116 x) (nd (o184 x) (lf (⟨(R 220), (some 529), .plain, #[]⟩)) .nil) (lf (o311 x))) (nd (o117 x) (lf (o238 x)) (lf (o370 x)))) (t1233 x))) (nd (o119 x) (nd (o120 x) (nd (o3 x) (nd (o121 x) (nd (o186 x) (lf (o451 x)) .nil) (lf (o312 x))) (nd (o122 x) (lf (o239 x)) (lf (o372 x)))) (t1241 x)) (nd (o8 x) (nd (o123 x) (nd (o124 x) (nd (o187 x) (lf (o453 x)) .nil) (lf (o314 x))) (nd (o125 x) (lf (o241 x)) (lf (⟨(R 220), (some 473), .plain, #[]⟩)))) (nd (o126 x) (nd (o3 x) (t1246 x) (lf (o375 x))) (nd (o188 x) (lf (o266 x)) (lf (o455 x))))))) (nd (o12 x) (nd (o3 x) (nd (o127 x) (nd (o128 x) (nd (o3 x) (nd (o3 x) (lf (⟨(R 220), (some 517), .plain, #[]⟩)) .nil) (lf (o315 x))) (nd (o129 x) (lf (o243 x)) (lf (o376 x)))) (t1258 x)) (nd (o131 x) (nd (o8 x) (nd (o132 x) (t1260 x) (lf (o317 x))) (nd (o3 x) (lf (o245 x)) (lf (o378 x)))) (nd (o133 x) (t1264 x) (nd (o192 x) (lf (o267 x)) (lf (o460 x)))))) (nd (o8 x) (nd (o3 x) (nd (o3 x) (nd (o8 x) (nd (o8 x) (lf (o461 x)) .nil) (lf (o318 x))) (nd (o135 x) (lf (o246 x)) (lf (⟨(R 220), (some 461), .plain, #[]⟩)))) (nd (o136 x) (nd (o137 x) (t1272 x) (lf (o319 x))) (nd (o194 x) (lf (o268 x)) (lf (o381 x))))) (nd (o138 x) (nd (o139 x) (nd (o3 x) (nd (o3 x) (lf (⟨(R 220), (some 541), .plain, #[]⟩)) .nil) (lf (o320 x))) (nd (o140 x) (lf (o247 x)) (lf (o382 x)))) (t1282 x))))))
def sC19 (w : World) (v d : Obj) (os : OsState) : SharedT := ⟨(t1288 ⟨w.params, v, d⟩), 575, {}, #[], {}, 1874, os⟩
def o466 (x : X) : Obj := ⟨(T "dict"), none, (.dict #[E x "s" 1884 (S "tri" 1874), E x "substring_i" 1886 (.int (-1) 1876), E x "result" 1888 (.int (-1) 1878)] 3), #[]⟩
def o467 (x : X) : Obj := ⟨(T "dict"), none, (.dict #[E x "s" 2033 (S "samt" 2024), E x "substring_i" 2035 (.int 3 2025), E x "result" 2037 (.int (-1) 2027)] 3), #[]⟩
def t1297 (x : X) : BT := nd (o3 x) (nd (o198 x) (lf (⟨(T "list"), none, (.seq #[(R 586), (R 589)] 0), #[]⟩)) .nil) (lf (o324 x))
def t1301 (x : X) : BT := nd (o199 x) (lf (⟨(T "frame"), none, (.dict #[E x "self" 1909 (R 582), E x "s" 1910 (S "unu" 1904), E x "substring_i" 1911 (.int (-1) 1906), E x "result" 1912 (.int (-1) 1908)] 4), #[]⟩)) .nil
def t1306 (x : X) : BT := nd (o28 x) (nd (o201 x) (lf (⟨(R 220), (some 598), .plain, #[]⟩)) .nil) (lf (⟨(R 220), (some 470), .plain, #[]⟩))
def t1314 (x : X) : BT := nd (o205 x) (lf (⟨(R 220), (some 610), .plain, #[]⟩)) .nil
def o474 (x : X) : Obj := ⟨(T "dict"), none, (.dict #[E x "s" 1975 (S "kelk" 1966), E x "substring_i" 1977 (.int 0 1967), E x "result" 1979 (.int (-1) 1969)] 3), #[]⟩
def t1323 (x : X) : BT := nd (o207 x) (lf (⟨(T "frame"), none, (.dict #[E x "self" 1925 (R 586), E x "s" 1926 (S "dek" 1920), E x "substring_i" 1927 (.int (-1) 1922), E x "result" 1928 (.int (-1) 1924)] 4), #[]⟩)) .nil
def t1327 (x : X) : BT := nd (o208 x) (lf (⟨(T "frame"), none, (.dict #[E x "self" 2000 (R 602), E x "s" 2001 (S "t" 1995), E x "substring_i" 2002 (.int (-1) 1997), E x "result" 2003 (.int (-1) 1999)] 4), #[]⟩)) .nil
def t1334 (x : X) : BT := nd (o210 x) (lf (⟨(T "frame"), none, (.dict #[E x "self" 1879 (R 576), E x "s" 1880 (S "tri" 1874), E x "substring_i" 1881 (.int (-1) 1876), E x "result" 1882 (.int (-1) 1878)] 4), #[]⟩)) .nil
def t1337 (x : X) : BT := nd (o211 x) (lf (⟨(T "frame"), none, (.dict #[E x "self" 2028 (R 608), E x "s" 2029 (S "samt" 2024), E x "substring_i" 2030 (.int 3 2025), E x "result" 2031 (.int (-1) 2027)] 4), #[]⟩)) .nil
def t1339 (x : X) : BT := nd (o49 x) (nd (o50 x) (nd (o163 x) (lf (⟨(R 220), (some 544), .plain, #[]⟩)) .nil) (lf (o284 x))) (nd (o144 x) (t1337 x) (lf (o339 x)))
def t1342 (x : X) : BT := nd (o53 x) (nd (o212 x) (lf (⟨(R 220), (some 592), .plain, #[]⟩)) .nil) (lf (⟨(R 220), (some 464), .plain, #[]⟩))
def o480 (x : X) : Obj := ⟨(T "dict"), none, (.dict #[E x "s" 1930 (S "dek" 1920), E x "substring_i" 1932 (.int (-1) 1922), E x "result" 1934 (.int (-1) 1924)] 3), #[]⟩
def o481 (x : X) : Obj := ⟨(T "dict"), none, (.dict #[E x "s" 2005 (S "t" 1995), E x "substring_i" 2007 (.int (-1) 1997), E x "result" 2009 (.int (-1) 1999)] 3), #[]⟩
def o482 (x : X) : Obj := ⟨(T "dict"), none, (.dict #[E x "s" 1914 (S "unu" 1904), E x "substring_i" 1916 (.int (-1) 1906), E x "result" 1918 (.int (-1) 1908)] 3), #[]⟩
def o483 (x : X) : Obj := ⟨(T "list"), none, (.seq #[(R 593), (R 596), (R 599), (R 602), (R 605), (R 608), (R 611)] 0), #[]⟩
def t1361 (x : X) : BT := nd (o66 x) (nd (o3 x) (t1125 x) (lf (o291 x))) (nd (o167 x) (nd (o218 x) (lf (o483 x)) .nil) (lf (o346 x)))
def t1363 (x : X) : BT := nd (o219 x) (lf (⟨(T "frame"), none, (.dict #[E x "self" 1970 (R 596), E x "s" 1971 (S "kelk" 1966), E x "substring_i" 1972 (.int 0 1967), E x "result" 1973 (.int (-1) 1969)] 4), #[]⟩)) .nil
def t1373 (x : X) : BT := nd (o75 x) (nd (o221 x) (lf (⟨(R 220), (some 604), .plain, #[]⟩)) .nil) (lf (⟨(R 220), (some 476), .plain, #[]⟩))
def t1384 (x : X) : BT := nd (o81 x) (nd (o224 x) (lf (⟨(R 220), (some 607), .plain, #[]⟩)) .nil) (lf (⟨(R 220), (some 479), .plain, #[]⟩))
def o489 (x : X) : Obj := ⟨(T "dict"), none, (.dict #[E x "s" 1961 (S "k" 1951), E x "substring_i" 1963 (.int (-1) 1953), E x "result" 1965 (.int (-1) 1955)] 3), #[]⟩
def t1393 (x : X) : BT := nd (o89 x) (nd (o226 x) (lf (⟨(T "list"), none, (.seq #[(R 576), (R 579), (R 582)] 0), #[]⟩)) .nil) (lf (⟨(R 220), (some 455), .plain, #[]⟩))
def t1396 (x : X) : BT := nd (o228 x) (lf (⟨(T "frame"), none, (.dict #[E x "self" 1985 (R 599), E x "s" 1986 (S "nen" 1980), E x "substring_i" 1987 (.int (-1) 1982), E x "result" 1988 (.int (-1) 1984)] 4), #[]⟩)) .nil
def t1402 (x : X) : BT := nd (o230 x) (lf (⟨(T "frame"), none, (.dict #[E x "self" 1894 (R 579), E x "s" 1895 (S "du" 1889), E x "substring_i" 1896 (.int (-1) 1891), E x "result" 1897 (.int (-1) 1893)] 4), #[]⟩)) .nil
def t1405 (x : X) : BT := nd (o231 x) (lf (⟨(T "frame"), none, (.dict #[E x "self" 2043 (R 611), E x "s" 2044 (S "ĉ" 2038), E x "substring_i" 2045 (.int (-1) 2040), E x "result" 2046 (.int (-1) 2042)] 4), #[]⟩)) .nil
def t1407 (x : X) : BT := nd (o8 x) (nd (o100 x) (nd (o179 x) (lf (⟨(R 220), (some 547), .plain, #[]⟩)) .nil) (lf (o304 x))) (nd (o3 x) (t1405 x) (lf (o361 x)))
def t1410 (x : X) : BT := nd (o8 x) (nd (o232 x) (lf (⟨(R 220), (some 595), .plain, #[]⟩)) .nil) (lf (⟨(R 220), (some 467), .plain, #[]⟩))
def o495 (x : X) : Obj := ⟨(T "dict"), none, (.dict #[E x "s" 1945 (S "cent" 1935), E x "substring_i" 1947 (.int (-1) 1937), E x "result" 1949 (.int (-1) 1939)] 3), #[]⟩
def o496 (x : X) : Obj := ⟨(T "dict"), none, (.dict #[E x "s" 2019 (S "mult" 2010), E x "substring_i" 2021 (.int 3 2011), E x "result" 2023 (.int (-1) 2013)] 3), #[]⟩
def o497 (x : X) : Obj := ⟨(T "dict"), none, (.dict #[E x "s" 1899 (S "du" 1889), E x "substring_i" 1901 (.int (-1) 1891), E x "result" 1903 (.int (-1) 1893)] 3), #[]⟩
def o498 (x : X) : Obj := ⟨(T "dict"), none, (.dict #[E x "s" 2048 (S "ĉ" 2038), E x "substring_i" 2050 (.int (-1) 2040), E x "result" 2052 (.int (-1) 2042)] 3), #[]⟩
def t1430 (x : X) : BT := nd (o114 x) (nd (o3 x) (t1224 x) (lf (o310 x))) (nd (o22 x) (nd (o237 x) (lf (o498 x)) .nil) (lf (o369 x)))
def t1432 (x : X) : BT := nd (o238 x) (lf (⟨(T "frame"), none, (.dict #[E x "self" 1956 (R 593), E x "s" 1957 (S "k" 1951), E x "substring_i" 1958 (.int (-1) 1953), E x "result" 1959 (.int (-1) 1955)] 4), #[]⟩)) .nil
def t1442 (x : X) : BT := nd (o125 x) (nd (o241 x) (lf (⟨(R 220), (some 601), .plain, #[]⟩)) .nil) (lf (⟨(R 220), (some 473), .plain, #[]⟩))
def o503 (x : X) : Obj := ⟨(T "dict"), none, (.dict #[E x "s" 1990 (S "nen" 1980), E x "substring_i" 1992 (.int (-1) 1982), E x "result" 1994 (.int (-1) 1984)] 3), #[]⟩
def t1456 (x : X) : BT := nd (o246 x) (lf (⟨(T "frame"), none, (.dict #[E x "self" 1940 (R 589), E x "s" 1941 (S "cent" 1935), E x "substring_i" 1942 (.int (-1) 1937), E x "result" 1943 (.int (-1) 1939)] 4), #[]⟩)) .nil
def t1460 (x : X) : BT := nd (o247 x) (lf (⟨(T "frame"), none, (.dict #[E x "self" 2014 (R 605), E x "s" 2015 (S "mult" 2010), E x "substring_i" 2016 (.int 3 2011), E x "result" 2017 (.int (-1) 2013)] 4), #[]⟩)) .nil
def t1468 (x : X) : BT := nd (o0 x) (nd (o1 x) (nd (o13 x) (nd (o3 x) (nd (o3 x) (nd (o14 x) (nd (o15 x) (nd (o3 x) (nd (o3 x) (lf (o392 x)) .nil) (lf (o269 x))) (nd (o8 x) (nd (o196 x) (lf (o466 x)) .nil) (lf (⟨(R 220), (some 446), .plain, #[]⟩)))) (nd (o3 x) (nd (o16 x) (t1027 x) (lf (o270 x))) (nd (o17 x) (nd (o197 x) (lf (o467 x)) .nil) (lf (o323 x))))) (nd (o18 x) (nd (o8 x) (nd (o19 x) (nd (o151 x) (lf (⟨(R 220), (some 526), .plain, #[]⟩)) .nil) (lf (o271 x))) (t1297 x)) (t1036 x))) (nd (o22 x) (nd (o3 x) (nd (o3 x) (nd (o8 x) (nd (o8 x) (lf (o396 x)) .nil) (lf (o273 x))) (nd (o23 x) (t1301 x) (lf (o325 x)))) (t1044 x)) (nd (o26 x) (nd (o27 x) (nd (o3 x) (nd (o3 x) (lf (o398 x)) .nil) (lf (o275 x))) (t1306 x)) (nd (o29 x) (nd (o3 x) (t1049 x) (lf (o328 x))) (nd (o155 x) (lf (o250 x)) (lf (o400 x))))))) (nd (o3 x) (nd (o30 x) (nd (o31 x) (nd (o3 x) (nd (o32 x) (nd (o156 x) (lf (⟨(R 220), (some 514), .plain, #[]⟩)) .nil) (lf (o276 x))) (nd (o33 x) (nd (o203 x) (lf (⟨(R 220), (some 578), .plain, #[]⟩)) .nil) (lf (o329 x)))) (nd (o3 x) (t1060 x) (nd (⟨(T "dict"), none, (.dict #[E x "__module__" 482 (S "snowballstemmer.esperanto_stemmer" 473), E x "__qualname__" 484 (S "EsperantoStemmer" 483), E x "__firstlineno__" 486 (.int 204 485), E x "g_vowel" 497 (R 232), E x "g_aou" 499 (S "aou" 498), E x "g_digit" 520 (R 233), E x "r_canonical_form" 530 (R 240), E x "r_initial_apostrophe" 537 (R 247), E x "r_pronoun" 545 (R 254), E x "r_final_apostrophe" 553 (R 261), E x "r_ujn_suffix" 562 (R 268), E x "r_uninflected" 569 (R 275), E x "r_merged_numeral" 576 (R 282), E x "r_correlative" 589 (R 289), E x "r_long_word" 598 (R 296), E x "r_standard_suffix" 608 (R 303), E x "_stem" 624 (R 310), E x "a_0" 847 (R 362), E x "a_1" 936 (R 381), E x "a_2" 1186 (R 433), E x "a_3" 1483 (R 494), E x "a_4" 1514 (R 501), E x "a_5" 1873 (R 574), E x "a_6" 1919 (R 584), E x "a_7" 1950 (R 591), E x "a_8" 2053 (R 613)] 26), #[]⟩) (t1314 x) (lf (o331 x))))) (nd (o8 x) (nd (o34 x) (nd (o35 x) (t1064 x) (lf (o279 x))) (nd (o3 x) (nd (o206 x) (lf (o474 x)) .nil) (lf (o332 x)))) (nd (o36 x) (t1068 x) (nd (o159 x) (lf (o252 x)) (lf (o386 x)))))) (nd (o37 x) (nd (o3 x) (nd (o38 x) (nd (o39 x) (nd (o160 x) (lf (o406 x)) .nil) (lf (o280 x))) (nd (o40 x) (t1323 x) (lf (⟨(R 220), (some 458), .plain, #[]⟩)))) (nd (o8 x) (nd (o41 x) (t1075 x) (lf (o281 x))) (nd (o8 x) (lf (o253 x)) (lf (o335 x))))) (nd (o42 x) (nd (o43 x) (nd (o3 x) (nd (o3 x) (lf (⟨(R 220), (some 538), .plain, #[]⟩)) .nil) (lf (o282 x))) (nd (o44 x) (t1327 x) (lf (o336 x)))) (t1085 x))))) (nd (o4 x) (nd (o5 x) (nd (o46 x) (nd (o47 x) (nd (o8 x) (nd (o48 x) (nd (o162 x) (lf (o411 x)) .nil) (lf (o283 x))) (nd (o3 x) (t1334 x) (lf (o338 x)))) (t1339 x)) (nd (o51 x) (nd (o3 x) (nd (o52 x) (nd (o164 x) (lf (o413 x)) .nil) (lf (o285 x))) (t1342 x)) (nd (o3 x) (nd (o8 x) (t1100 x) (lf (o286 x))) (nd (o3 x) (lf (o255 x)) (lf (o387 x)))))) (nd (o3 x) (nd (o54 x) (nd (o55 x) (nd (o3 x) (nd (o3 x) (lf (⟨(R 220), (some 520), .plain, #[]⟩)) .nil) (lf (o287 x))) (nd (o56 x) (nd (o213 x) (lf (o480 x)) .nil) (lf (o341 x)))) (t1110 x)) (nd (o3 x) (nd (o58 x) (nd (o59 x) (t1112 x) (lf (o289 x))) (nd (o60 x) (nd (o215 x) (lf (o481 x)) .nil) (lf (o343 x)))) (nd (o8 x) (t1116 x) (nd (o8 x) (lf (o256 x)) (lf (o419 x))))))) (nd (o11 x) (nd (o62 x) (nd (o8 x) (nd (o63 x) (nd (o64 x) (nd (o166 x) (lf (o420 x)) .nil) (lf (o290 x))) (nd (o65 x) (nd (o217 x) (lf (o482 x)) .nil) (lf (⟨(R 220), (some 452), .plain, #[]⟩)))) (t1361 x)) (nd (o3 x) (nd (o3 x) (nd (o8 x) (nd (o8 x) (lf (⟨(R 220), (some 532), .plain, #[]⟩)) .nil) (lf (o292 x))) (nd (o67 x) (t1363 x) (lf (o347 x)))) (t1134 x))) (nd (o3 x) (nd (o70 x) (nd (o71 x) (nd (o3 x) (nd (o3 x) (lf (o424 x)) .nil) (lf (o293 x))) (nd (o22 x) (nd (o220 x) (lf (⟨(R 220), (some 588), .plain, #[]⟩)) .nil) (lf (o349 x)))) (t1142 x)) (nd (o73 x) (nd (o8 x) (nd (o74 x) (nd (o171 x) (lf (o426 x)) .nil) (lf (o295 x))) (t1373 x)) (nd (o76 x) (nd (o77 x) (t1147 x) (lf (o352 x))) (nd (o172 x) (lf (o259 x)) (lf (o428 x))))))))) (nd (o6 x) (nd (o7 x) (nd (o8 x) (nd (o8 x) (nd (o3 x) (nd (o3 x) (nd (o8 x) (nd (o8 x) (lf (⟨(R 220), (some 511), .plain, #[]⟩)) .nil) (lf (o296 x))) (nd (o78 x) (nd (o223 x) (lf (⟨(R 220), (some 575), .plain, #[]⟩)) .nil) (lf (o353 x)))) (nd (o79 x) (nd (o80 x) (nd (o173 x) (lf (o430 x)) .nil) (lf (o297 x))) (t1384 x))) (nd (o82 x) (nd (o83 x) (nd (o3 x) (t1163 x) (lf (o298 x))) (nd (o84 x) (nd (o225 x) (lf (o489 x)) .nil) (lf (o355 x)))) (t1168 x))) (nd (o86 x) (nd (o87 x) (nd (o8 x) (nd (o88 x) (nd (o175 x) (lf (o433 x)) .nil) (lf (o300 x))) (t1393 x)) (nd (o90 x) (nd (o91 x) (t1174 x) (lf (o301 x))) (nd x.v (lf (o227 x)) (lf (o357 x))))) (nd (o92 x) (nd (o3 x) (nd (o93 x) (nd (o177 x) (lf (⟨(R 220), (some 535), .plain, #[]⟩)) .nil) (lf (o302 x))) (nd (o94 x) (t1396 x) (lf (o358 x)))) (t1184 x)))) (nd (o145 x) (nd (o96 x) (nd (o3 x) (nd (o97 x) (nd (o98 x) (nd (o178 x) (lf (o438 x)) .nil) (lf (o303 x))) (nd (o99 x) (t1402 x) (lf (o360 x)))) (t1407 x)) (nd (o101 x) (nd (o102 x) (nd (o3 x) (nd (o3 x) (lf (o440 x)) .nil) (lf (o305 x))) (t1410 x)) (nd (o3 x) (nd (o103 x) (t1198 x) (lf (o363 x))) (nd (o3 x) (lf (o262 x)) (lf (o390 x)))))) (nd (o104 x) (nd (o8 x) (nd (o105 x) (nd (o106 x) (nd (o181 x) (lf (⟨(R 220), (some 523), .plain, #[]⟩)) .nil) (lf (o306 x))) (nd (o3 x) (nd (o233 x) (lf (o495 x)) .nil) (lf (o364 x)))) (nd (o107 x) (nd (o3 x) (nd (o3 x) (lf (o443 x)) .nil) (lf (o307 x))) (t919 x))) (nd (o3 x) (nd (o3 x) (nd (o8 x) (t1210 x) (lf (o308 x))) (nd (o108 x) (nd (o234 x) (lf (o496 x)) .nil) (lf (o366 x)))) (nd (o109 x) (t1214 x) (nd (o183 x) (lf (o264 x)) (lf (o446 x)))))))) (nd (o9 x) (nd (o10 x) (nd (o3 x) (nd (o111 x) (nd (o112 x) (nd (o3 x) (nd (o3 x) (lf (o447 x)) .nil) (lf (o309 x))) (nd (o113 x) (nd (o236 x) (lf (o497 x)) .nil) (lf (⟨(R 220), (some 449), .plain, #[]⟩)))) (t1430 x)) (nd (o3 x) (nd (o115 x) (nd (o116 x) (nd (o184 x) (lf (⟨(R 220), (some 529), .plain, #[]⟩)) .nil) (lf (o311 x))) (nd (o117 x) (t1432 x) (lf (o370 x)))) (t1233 x))) (nd (o119 x) (nd (o120 x) (nd (o3 x) (nd (o121 x) (nd (o186 x) (lf (o451 x)) .nil) (lf (o312 x))) (nd (o122 x) (nd (o239 x) (lf (⟨(R 220), (some 585), .plain, #[]⟩)) .nil) (lf (o372 x)))) (t1241 x)) (nd (o8 x) (nd (o123 x) (nd (o124 x) (nd (o187 x) (lf (o453 x)) .nil) (lf (o314 x))) (t1442 x)) (nd (o126 x) (nd (o3 x) (t1246 x) (lf (o375 x))) (nd (o188 x) (lf (o266 x)) (lf (o455 x))))))) (nd (o12 x) (nd (o3 x) (nd (o127 x) (nd (o128 x) (nd (o3 x) (nd (o3 x) (lf (⟨(R 220), (some 517), .plain, #[]⟩)) .nil) (lf (o315 x))) (nd (o129 x) (nd (o243 x) (lf (⟨(R 220), (some 581), .plain, #[]⟩)) .nil) (lf (o376 x)))) (t1258 x)) (nd (o131 x) (nd (o8 x) (nd (o132 x) (t1260 x) (lf (o317 x))) (nd (o3 x) (nd (o245 x) (lf (o503 x)) .nil) (lf (o378 x)))) (nd (o133 x) (t1264 x) (nd (o192 x) (lf (o267 x)) (lf (o460 x)))))) (nd (o8 x) (nd (o3 x) (nd (o3 x) (nd (o8 x) (nd (o8 x) (lf (o461 x)) .nil) (lf (o318 x))) (nd (o135 x) (t1456 x) (lf (⟨(R 220), (some 461), .plain, #[]⟩)))) (nd (o136 x) (nd (o137 x) (t1272 x) (lf (o319 x))) (nd (o194 x) (lf (o268 x)) (lf (o381 x))))) (nd (o138 x) (nd (o139 x) (nd (o3 x) (nd (o3 x) (lf (⟨(R 220), (some 541), .plain, #[]⟩)) .nil) (lf (o320 x))) (nd (o140 x) (t1460 x) (lf (o382 x)))) (t1282 x))))))
def sC22 (w : World) (v d : Obj) (os : OsState) : SharedT := ⟨(t1468 ⟨w.params, v, d⟩), 614, {}, #[], {}, 2054, os⟩
def o507 (x : X) : Obj := ⟨(T "list"), none, (.seq #[(R 615), (R 618), (R 621), (R 624), (R 627), (R 630), (R 633), (R 636), (R 639), (R 642), (R 645), (R 648), (R 651), (R 654), (R 657), (R 660), (R 663), (R 666), (R 669)] 0), #[]⟩
def t1477 (x : X) : BT := nd (o19 x) (nd (o151 x) (lf (⟨(R 220), (some 526), .plain, #[]⟩)) .nil) (nd (o271 x) (lf (⟨(T "frame"), none, (.dict #[E x "self" 2243 (R 654), E x "s" 2244 (S "o" 2238), E x "substring_i" 2245 (.int (-1) 2240), E x "result" 2246 (.int (-1) 2242)] 4), #[]⟩)) .nil)
def o509 (x : X) : Obj := ⟨(T "dict"), none, (.dict #[E x "s" 2108 (S "j" 2099), E x "substring_i" 2110 (.int (-1) 2101), E x "result" 2112 (.int 1 2102)] 3), #[]⟩
def t1483 (x : X) : BT := nd (o3 x) (nd (o14 x) (nd (o15 x) (nd (o3 x) (nd (o3 x) (lf (o392 x)) .nil) (nd (o269 x) (lf (⟨(R 220), (some 638), .plain, #[]⟩)) .nil)) (nd (o8 x) (nd (o196 x) (lf (o466 x)) .nil) (lf (⟨(R 220), (some 446), .plain, #[]⟩)))) (nd (o3 x) (nd (o16 x) (t1027 x) (nd (o270 x) (lf (o507 x)) .nil)) (nd (o17 x) (nd (o197 x) (lf (o467 x)) .nil) (lf (o323 x))))) (nd (o18 x) (nd (o8 x) (t1477 x) (t1297 x)) (nd (o20 x) (nd (o21 x) (nd (o152 x) (lf (o395 x)) .nil) (lf (o272 x))) (nd (o153 x) (nd (⟨(R 220), (some 366), .plain, #[]⟩) (lf (o509 x)) .nil) (lf (o384 x)))))
def o510 (x : X) : Obj := ⟨(T "dict"), none, (.dict #[E x "s" 2219 (S "ojn" 2210), E x "substring_i" 2221 (.int 9 2211), E x "result" 2223 (.int (-1) 2213)] 3), #[]⟩
def t1489 (x : X) : BT := nd (o24 x) (nd (o25 x) (nd (o154 x) (lf (⟨(R 220), (some 550), .plain, #[]⟩)) .nil) (lf (o274 x))) (nd (o142 x) (nd (o200 x) (lf (⟨(R 220), (some 614), .plain, #[]⟩)) .nil) (lf (o326 x)))
def t1492 (x : X) : BT := nd (o3 x) (nd (o3 x) (lf (o398 x)) .nil) (nd (o275 x) (lf (⟨(R 220), (some 662), .plain, #[]⟩)) .nil)
def t1494 (x : X) : BT := nd (o250 x) (lf (⟨(T "frame"), none, (.dict #[E x "self" 2131 (R 630), E x "s" 2132 (S "oj" 2127), E x "substring_i" 2133 (.int 3 2128), E x "result" 2134 (.int (-1) 2130)] 4), #[]⟩)) .nil
def t1497 (x : X) : BT := nd (o26 x) (nd (o27 x) (t1492 x) (t1306 x)) (nd (o29 x) (nd (o3 x) (t1049 x) (lf (o328 x))) (nd (o155 x) (t1494 x) (lf (o400 x))))
def t1500 (x : X) : BT := nd (o276 x) (lf (⟨(T "frame"), none, (.dict #[E x "self" 2186 (R 642), E x "s" 2187 (S "jn" 2183), E x "substring_i" 2188 (.int 6 2184), E x "result" 2189 (.int 1 2185)] 4), #[]⟩)) .nil
def t1502 (x : X) : BT := nd (o3 x) (nd (o32 x) (nd (o156 x) (lf (⟨(R 220), (some 514), .plain, #[]⟩)) .nil) (t1500 x)) (nd (o33 x) (nd (o203 x) (lf (⟨(R 220), (some 578), .plain, #[]⟩)) .nil) (lf (o329 x)))
def o516 (x : X) : Obj := ⟨(T "dict"), none, (.dict #[E x "s" 2278 (S "is" 2268), E x "substring_i" 2280 (.int (-1) 2270), E x "result" 2282 (.int (-1) 2272)] 3), #[]⟩
def t1512 (x : X) : BT := nd (o8 x) (nd (o34 x) (nd (o35 x) (t1064 x) (nd (o279 x) (lf (o516 x)) .nil)) (nd (o3 x) (nd (o206 x) (lf (o474 x)) .nil) (lf (o332 x)))) (nd (o36 x) (t1068 x) (nd (o159 x) (nd (o252 x) (lf (⟨(R 220), (some 626), .plain, #[]⟩)) .nil) (lf (o386 x))))
def t1517 (x : X) : BT := nd (o253 x) (lf (⟨(T "frame"), none, (.dict #[E x "self" 2074 (R 618), E x "s" 2075 (S "e" 2069), E x "substring_i" 2076 (.int (-1) 2071), E x "result" 2077 (.int (-1) 2073)] 4), #[]⟩)) .nil
def t1522 (x : X) : BT := nd (o3 x) (nd (o3 x) (lf (⟨(R 220), (some 538), .plain, #[]⟩)) .nil) (nd (o282 x) (lf (⟨(T "frame"), none, (.dict #[E x "self" 2303 (R 666), E x "s" 2304 (S "us" 2298), E x "substring_i" 2305 (.int (-1) 2300), E x "result" 2306 (.int (-1) 2302)] 4), #[]⟩)) .nil)
def o521 (x : X) : Obj := ⟨(T "dict"), none, (.dict #[E x "s" 2164 (S "an" 2155), E x "substring_i" 2166 (.int 6 2156), E x "result" 2168 (.int (-1) 2158)] 3), #[]⟩
def t1528 (x : X) : BT := nd (o37 x) (nd (o3 x) (nd (o38 x) (nd (o39 x) (nd (o160 x) (lf (o406 x)) .nil) (nd (o280 x) (lf (⟨(R 220), (some 650), .plain, #[]⟩)) .nil)) (nd (o40 x) (t1323 x) (lf (⟨(R 220), (some 458), .plain, #[]⟩)))) (nd (o8 x) (nd (o41 x) (t1075 x) (lf (o281 x))) (nd (o8 x) (t1517 x) (lf (o335 x))))) (nd (o42 x) (nd (o43 x) (t1522 x) (nd (o44 x) (t1327 x) (lf (o336 x)))) (nd (o3 x) (nd (o45 x) (nd (o209 x) (lf (o409 x)) .nil) (lf (o337 x))) (nd (o3 x) (nd (⟨(R 220), (some 378), .plain, #[]⟩) (lf (o521 x)) .nil) (lf (o410 x)))))
def o522 (x : X) : Obj := ⟨(T "dict"), none, (.dict #[E x "s" 2191 (S "jn" 2183), E x "substring_i" 2193 (.int 6 2184), E x "result" 2195 (.int 1 2185)] 3), #[]⟩
def t1533 (x : X) : BT := nd (o8 x) (nd (o48 x) (nd (o162 x) (lf (o411 x)) .nil) (nd (o283 x) (lf (o522 x)) .nil)) (nd (o3 x) (t1334 x) (lf (o338 x)))
def t1536 (x : X) : BT := nd (o52 x) (nd (o164 x) (lf (o413 x)) .nil) (nd (o285 x) (lf (⟨(R 220), (some 656), .plain, #[]⟩)) .nil)
def t1538 (x : X) : BT := nd (o255 x) (lf (⟨(T "frame"), none, (.dict #[E x "self" 2103 (R 624), E x "s" 2104 (S "j" 2099), E x "substring_i" 2105 (.int (-1) 2101), E x "result" 2106 (.int 1 2102)] 4), #[]⟩)) .nil
def t1541 (x : X) : BT := nd (o51 x) (nd (o3 x) (t1536 x) (t1342 x)) (nd (o3 x) (nd (o8 x) (t1100 x) (lf (o286 x))) (nd (o3 x) (t1538 x) (lf (o387 x))))
def t1543 (x : X) : BT := nd (o287 x) (lf (⟨(T "frame"), none, (.dict #[E x "self" 2214 (R 648), E x "s" 2215 (S "ojn" 2210), E x "substring_i" 2216 (.int 9 2211), E x "result" 2217 (.int (-1) 2213)] 4), #[]⟩)) .nil
def o526 (x : X) : Obj := ⟨(T "dict"), none, (.dict #[E x "s" 2079 (S "e" 2069), E x "substring_i" 2081 (.int (-1) 2071), E x "result" 2083 (.int (-1) 2073)] 3), #[]⟩
def o527 (x : X) : Obj := ⟨(T "dict"), none, (.dict #[E x "s" 2308 (S "us" 2298), E x "substring_i" 2310 (.int (-1) 2300), E x "result" 2312 (.int (-1) 2302)] 3), #[]⟩
def t1557 (x : X) : BT := nd (o3 x) (nd (o54 x) (nd (o55 x) (nd (o3 x) (nd (o3 x) (lf (⟨(R 220), (some 520), .plain, #[]⟩)) .nil) (t1543 x)) (nd (o56 x) (nd (o213 x) (lf (o480 x)) .nil) (lf (o341 x)))) (nd (o57 x) (nd (o3 x) (nd (o3 x) (lf (o416 x)) .nil) (lf (o288 x))) (nd x.d (nd (o214 x) (lf (o526 x)) .nil) (lf (⟨(R 220), (some 488), .plain, #[]⟩))))) (nd (o3 x) (nd (o58 x) (nd (o59 x) (t1112 x) (nd (o289 x) (lf (o527 x)) .nil)) (nd (o60 x) (nd (o215 x) (lf (o481 x)) .nil) (lf (o343 x)))) (nd (o8 x) (t1116 x) (nd (o8 x) (nd (o256 x) (lf (⟨(R 220), (some 632), .plain, #[]⟩)) .nil) (lf (o419 x)))))
def t1564 (x : X) : BT := nd (o8 x) (nd (o8 x) (lf (⟨(R 220), (some 532), .plain, #[]⟩)) .nil) (nd (o292 x) (lf (⟨(T "frame"), none, (.dict #[E x "self" 2273 (R 660), E x "s" 2274 (S "is" 2268), E x "substring_i" 2275 (.int (-1) 2270), E x "result" 2276 (.int (-1) 2272)] 4), #[]⟩)) .nil)
def o531 (x : X) : Obj := ⟨(T "dict"), none, (.dict #[E x "s" 2136 (S "oj" 2127), E x "substring_i" 2138 (.int 3 2128), E x "result" 2140 (.int (-1) 2130)] 3), #[]⟩
def o532 (x : X) : Obj := ⟨(T "dict"), none, (.dict #[E x "s" 2248 (S "o" 2238), E x "substring_i" 2250 (.int (-1) 2240), E x "result" 2252 (.int (-1) 2242)] 3), #[]⟩
def t1579 (x : X) : BT := nd (o74 x) (nd (o171 x) (lf (o426 x)) .nil) (nd (o295 x) (lf (⟨(R 220), (some 668), .plain, #[]⟩)) .nil)
def t1581 (x : X) : BT := nd (o259 x) (lf (⟨(T "frame"), none, (.dict #[E x "self" 2159 (R 636), E x "s" 2160 (S "an" 2155), E x "substring_i" 2161 (.int 6 2156), E x "result" 2162 (.int (-1) 2158)] 4), #[]⟩)) .nil
def t1586 (x : X) : BT := nd (o11 x) (nd (o62 x) (nd (o8 x) (nd (o63 x) (nd (o64 x) (nd (o166 x) (lf (o420 x)) .nil) (nd (o290 x) (lf (⟨(R 220), (some 644), .plain, #[]⟩)) .nil)) (nd (o65 x) (nd (o217 x) (lf (o482 x)) .nil) (lf (⟨(R 220), (some 452), .plain, #[]⟩)))) (t1361 x)) (nd (o3 x) (nd (o3 x) (t1564 x) (nd (o67 x) (t1363 x) (lf (o347 x)))) (nd (o68 x) (nd (o69 x) (nd (o168 x) (lf (o423 x)) .nil) (lf (o348 x))) (nd (o169 x) (nd (⟨(R 220), (some 372), .plain, #[]⟩) (lf (o531 x)) .nil) (lf (o388 x)))))) (nd (o3 x) (nd (o70 x) (nd (o71 x) (nd (o3 x) (nd (o3 x) (lf (o424 x)) .nil) (nd (o293 x) (lf (o532 x)) .nil)) (nd (o22 x) (nd (o220 x) (lf (⟨(R 220), (some 588), .plain, #[]⟩)) .nil) (lf (o349 x)))) (nd (o3 x) (nd (o72 x) (nd (o170 x) (lf (⟨(R 220), (some 556), .plain, #[]⟩)) .nil) (lf (o294 x))) (nd (o3 x) (nd (o258 x) (lf (⟨(R 220), (some 620), .plain, #[]⟩)) .nil) (lf (o350 x))))) (nd (o73 x) (nd (o8 x) (t1579 x) (t1373 x)) (nd (o76 x) (nd (o77 x) (t1147 x) (lf (o352 x))) (nd (o172 x) (t1581 x) (lf (o428 x))))))
def t1589 (x : X) : BT := nd (o296 x) (lf (⟨(T "frame"), none, (.dict #[E x "self" 2173 (R 639), E x "s" 2174 (S "en" 2169), E x "substring_i" 2175 (.int 6 2170), E x "result" 2176 (.int (-1) 2172)] 4), #[]⟩)) .nil
def t1591 (x : X) : BT := nd (o3 x) (nd (o8 x) (nd (o8 x) (lf (⟨(R 220), (some 511), .plain, #[]⟩)) .nil) (t1589 x)) (nd (o78 x) (nd (o223 x) (lf (⟨(R 220), (some 575), .plain, #[]⟩)) .nil) (lf (o353 x)))
def o537 (x : X) : Obj := ⟨(T "dict"), none, (.dict #[E x "s" 2263 (S "as" 2253), E x "substring_i" 2265 (.int (-1) 2255), E x "result" 2267 (.int (-1) 2257)] 3), #[]⟩
def t1599 (x : X) : BT := nd (o82 x) (nd (o83 x) (nd (o3 x) (t1163 x) (nd (o298 x) (lf (o537 x)) .nil)) (nd (o84 x) (nd (o225 x) (lf (o489 x)) .nil) (lf (o355 x)))) (nd (o85 x) (nd (o3 x) (nd (o3 x) (lf (⟨(R 220), (some 559), .plain, #[]⟩)) .nil) (lf (o299 x))) (nd (o174 x) (nd (o260 x) (lf (⟨(R 220), (some 623), .plain, #[]⟩)) .nil) (lf (o389 x))))
def t1604 (x : X) : BT := nd (o227 x) (lf (⟨(T "frame"), none, (.dict #[E x "self" 2059 (R 615), E x "s" 2060 (S "a" 2054), E x "substring_i" 2061 (.int (-1) 2056), E x "result" 2062 (.int (-1) 2058)] 4), #[]⟩)) .nil
def t1609 (x : X) : BT := nd (o93 x) (nd (o177 x) (lf (⟨(R 220), (some 535), .plain, #[]⟩)) .nil) (nd (o302 x) (lf (⟨(T "frame"), none, (.dict #[E x "self" 2288 (R 663), E x "s" 2289 (S "os" 2283), E x "substring_i" 2290 (.int (-1) 2285), E x "result" 2291 (.int (-1) 2287)] 4), #[]⟩)) .nil)
def o542 (x : X) : Obj := ⟨(T "dict"), none, (.dict #[E x "s" 2150 (S "n" 2141), E x "substring_i" 2152 (.int (-1) 2143), E x "result" 2154 (.int 1 2144)] 3), #[]⟩
def t1615 (x : X) : BT := nd (o86 x) (nd (o87 x) (nd (o8 x) (nd (o88 x) (nd (o175 x) (lf (o433 x)) .nil) (nd (o300 x) (lf (⟨(R 220), (some 647), .plain, #[]⟩)) .nil)) (t1393 x)) (nd (o90 x) (nd (o91 x) (t1174 x) (lf (o301 x))) (nd x.v (t1604 x) (lf (o357 x))))) (nd (o92 x) (nd (o3 x) (t1609 x) (nd (o94 x) (t1396 x) (lf (o358 x)))) (nd (o3 x) (nd (o8 x) (nd (o229 x) (lf (o436 x)) .nil) (lf (o359 x))) (nd (o3 x) (nd (⟨(R 220), (some 375), .plain, #[]⟩) (lf (o542 x)) .nil) (lf (o437 x)))))
def o543 (x : X) : Obj := ⟨(T "dict"), none, (.dict #[E x "s" 2205 (S "ajn" 2196), E x "substring_i" 2207 (.int 9 2197), E x "result" 2209 (.int (-1) 2199)] 3), #[]⟩
def t1619 (x : X) : BT := nd (o97 x) (nd (o98 x) (nd (o178 x) (lf (o438 x)) .nil) (nd (o303 x) (lf (o543 x)) .nil)) (nd (o99 x) (t1402 x) (lf (o360 x)))
def t1622 (x : X) : BT := nd (o3 x) (nd (o3 x) (lf (o440 x)) .nil) (nd (o305 x) (lf (⟨(R 220), (some 659), .plain, #[]⟩)) .nil)
def t1624 (x : X) : BT := nd (o262 x) (lf (⟨(T "frame"), none, (.dict #[E x "self" 2117 (R 627), E x "s" 2118 (S "aj" 2113), E x "substring_i" 2119 (.int 3 2114), E x "result" 2120 (.int (-1) 2116)] 4), #[]⟩)) .nil
def t1627 (x : X) : BT := nd (o101 x) (nd (o102 x) (t1622 x) (t1410 x)) (nd (o3 x) (nd (o103 x) (t1198 x) (lf (o363 x))) (nd (o3 x) (t1624 x) (lf (o390 x))))
def t1629 (x : X) : BT := nd (o306 x) (lf (⟨(T "frame"), none, (.dict #[E x "self" 2228 (R 651), E x "s" 2229 (S "on" 2224), E x "substring_i" 2230 (.int 6 2225), E x "result" 2231 (.int (-1) 2227)] 4), #[]⟩)) .nil
def o547 (x : X) : Obj := ⟨(T "dict"), none, (.dict #[E x "s" 2094 (S "i" 2084), E x "substring_i" 2096 (.int (-1) 2086), E x "result" 2098 (.int (-1) 2088)] 3), #[]⟩
def o548 (x : X) : Obj := ⟨(T "dict"), none, (.dict #[E x "s" 2323 (S "u" 2313), E x "substring_i" 2325 (.int (-1) 2315), E x "result" 2327 (.int (-1) 2317)] 3), #[]⟩
def t1643 (x : X) : BT := nd (o104 x) (nd (o8 x) (nd (o105 x) (nd (o106 x) (nd (o181 x) (lf (⟨(R 220), (some 523), .plain, #[]⟩)) .nil) (t1629 x)) (nd (o3 x) (nd (o233 x) (lf (o495 x)) .nil) (lf (o364 x)))) (nd (o107 x) (nd (o3 x) (nd (o3 x) (lf (o443 x)) .nil) (lf (o307 x))) (nd (o182 x) (nd (⟨(R 220), (some 363), .plain, #[]⟩) (lf (o547 x)) .nil) (lf (⟨(R 220), (some 491), .plain, #[]⟩))))) (nd (o3 x) (nd (o3 x) (nd (o8 x) (t1210 x) (nd (o308 x) (lf (o548 x)) .nil)) (nd (o108 x) (nd (o234 x) (lf (o496 x)) .nil) (lf (o366 x)))) (nd (o109 x) (t1214 x) (nd (o183 x) (nd (o264 x) (lf (⟨(R 220), (some 635), .plain, #[]⟩)) .nil) (lf (o446 x)))))
def t1648 (x : X) : BT := nd (o112 x) (nd (o3 x) (nd (o3 x) (lf (o447 x)) .nil) (nd (o309 x) (lf (⟨(R 220), (some 641), .plain, #[]⟩)) .nil)) (nd (o113 x) (nd (o236 x) (lf (o497 x)) .nil) (lf (⟨(R 220), (some 449), .plain, #[]⟩)))
def t1651 (x : X) : BT := nd (o116 x) (nd (o184 x) (lf (⟨(R 220), (some 529), .plain, #[]⟩)) .nil) (nd (o311 x) (lf (⟨(T "frame"), none, (.dict #[E x "self" 2258 (R 657), E x "s" 2259 (S "as" 2253), E x "substring_i" 2260 (.int (-1) 2255), E x "result" 2261 (.int (-1) 2257)] 4), #[]⟩)) .nil)
def o552 (x : X) : Obj := ⟨(T "dict"), none, (.dict #[E x "s" 2122 (S "aj" 2113), E x "substring_i" 2124 (.int 3 2114), E x "result" 2126 (.int (-1) 2116)] 3), #[]⟩
def t1656 (x : X) : BT := nd (o3 x) (nd (o115 x) (t1651 x) (nd (o117 x) (t1432 x) (lf (o370 x)))) (nd (o8 x) (nd (o118 x) (nd (o185 x) (lf (o450 x)) .nil) (lf (o371 x))) (nd (o8 x) (nd (⟨(R 220), (some 369), .plain, #[]⟩) (lf (o552 x)) .nil) (lf (o391 x))))
def o553 (x : X) : Obj := ⟨(T "dict"), none, (.dict #[E x "s" 2233 (S "on" 2224), E x "substring_i" 2235 (.int 6 2225), E x "result" 2237 (.int (-1) 2227)] 3), #[]⟩
def t1666 (x : X) : BT := nd (o124 x) (nd (o187 x) (lf (o453 x)) .nil) (nd (o314 x) (lf (⟨(R 220), (some 665), .plain, #[]⟩)) .nil)
def t1668 (x : X) : BT := nd (o266 x) (lf (⟨(T "frame"), none, (.dict #[E x "self" 2145 (R 633), E x "s" 2146 (S "n" 2141), E x "substring_i" 2147 (.int (-1) 2143), E x "result" 2148 (.int 1 2144)] 4), #[]⟩)) .nil
def t1672 (x : X) : BT := nd (o119 x) (nd (o120 x) (nd (o3 x) (nd (o121 x) (nd (o186 x) (lf (o451 x)) .nil) (nd (o312 x) (lf (o553 x)) .nil)) (nd (o122 x) (nd (o239 x) (lf (⟨(R 220), (some 585), .plain, #[]⟩)) .nil) (lf (o372 x)))) (nd (o3 x) (nd (o8 x) (nd (o8 x) (lf (⟨(R 220), (some 553), .plain, #[]⟩)) .nil) (lf (o313 x))) (nd (o3 x) (nd (o240 x) (lf (⟨(R 220), (some 617), .plain, #[]⟩)) .nil) (lf (o373 x))))) (nd (o8 x) (nd (o123 x) (t1666 x) (t1442 x)) (nd (o126 x) (nd (o3 x) (t1246 x) (lf (o375 x))) (nd (o188 x) (t1668 x) (lf (o455 x)))))
def t1674 (x : X) : BT := nd (o315 x) (lf (⟨(T "frame"), none, (.dict #[E x "self" 2200 (R 645), E x "s" 2201 (S "ajn" 2196), E x "substring_i" 2202 (.int 9 2197), E x "result" 2203 (.int (-1) 2199)] 4), #[]⟩)) .nil
def o558 (x : X) : Obj := ⟨(T "dict"), none, (.dict #[E x "s" 2064 (S "a" 2054), E x "substring_i" 2066 (.int (-1) 2056), E x "result" 2068 (.int (-1) 2058)] 3), #[]⟩
def o559 (x : X) : Obj := ⟨(T "dict"), none, (.dict #[E x "s" 2293 (S "os" 2283), E x "substring_i" 2295 (.int (-1) 2285), E x "result" 2297 (.int (-1) 2287)] 3), #[]⟩
def t1692 (x : X) : BT := nd (o268 x) (lf (⟨(T "frame"), none, (.dict #[E x "self" 2089 (R 621), E x "s" 2090 (S "i" 2084), E x "substring_i" 2091 (.int (-1) 2086), E x "result" 2092 (.int (-1) 2088)] 4), #[]⟩)) .nil
def t1697 (x : X) : BT := nd (o3 x) (nd (o3 x) (lf (⟨(R 220), (some 541), .plain, #[]⟩)) .nil) (nd (o320 x) (lf (⟨(T "frame"), none, (.dict #[E x "self" 2318 (R 669), E x "s" 2319 (S "u" 2313), E x "substring_i" 2320 (.int (-1) 2315), E x "result" 2321 (.int (-1) 2317)] 4), #[]⟩)) .nil)
def o564 (x : X) : Obj := ⟨(T "dict"), none, (.dict #[E x "s" 2178 (S "en" 2169), E x "substring_i" 2180 (.int 6 2170), E x "result" 2182 (.int (-1) 2172)] 3), #[]⟩
def t1704 (x : X) : BT := nd (o12 x) (nd (o3 x) (nd (o127 x) (nd (o128 x) (nd (o3 x) (nd (o3 x) (lf (⟨(R 220), (some 517), .plain, #[]⟩)) .nil) (t1674 x)) (nd (o129 x) (nd (o243 x) (lf (⟨(R 220), (some 581), .plain, #[]⟩)) .nil) (lf (o376 x)))) (nd (o3 x) (nd (o130 x) (nd (o189 x) (lf (o457 x)) .nil) (lf (o316 x))) (nd (o146 x) (nd (o244 x) (lf (o558 x)) .nil) (lf (⟨(R 220), (some 485), .plain, #[]⟩))))) (nd (o131 x) (nd (o8 x) (nd (o132 x) (t1260 x) (nd (o317 x) (lf (o559 x)) .nil)) (nd (o3 x) (nd (o245 x) (lf (o503 x)) .nil) (lf (o378 x)))) (nd (o133 x) (t1264 x) (nd (o192 x) (nd (o267 x) (lf (⟨(R 220), (some 629), .plain, #[]⟩)) .nil) (lf (o460 x)))))) (nd (o8 x) (nd (o3 x) (nd (o3 x) (nd (o8 x) (nd (o8 x) (lf (o461 x)) .nil) (nd (o318 x) (lf (⟨(R 220), (some 653), .plain, #[]⟩)) .nil)) (nd (o135 x) (t1456 x) (lf (⟨(R 220), (some 461), .plain, #[]⟩)))) (nd (o136 x) (nd (o137 x) (t1272 x) (lf (o319 x))) (nd (o194 x) (t1692 x) (lf (o381 x))))) (nd (o138 x) (nd (o139 x) (t1697 x) (nd (o140 x) (t1460 x) (lf (o382 x)))) (nd (o141 x) (nd (o3 x) (nd (o248 x) (lf (o464 x)) .nil) (lf (o383 x))) (nd (o195 x) (nd (o321 x) (lf (o564 x)) .nil) (lf (o465 x))))))
def t1707 (x : X) : BT := nd (o0 x) (nd (o1 x) (nd (o13 x) (nd (o3 x) (t1483 x) (nd (o22 x) (nd (o3 x) (nd (o3 x) (nd (o8 x) (nd (o8 x) (lf (o396 x)) .nil) (nd (o273 x) (lf (o510 x)) .nil)) (nd (o23 x) (t1301 x) (lf (o325 x)))) (t1489 x)) (t1497 x))) (nd (o3 x) (nd (o30 x) (nd (o31 x) (t1502 x) (nd (o3 x) (t1060 x) (nd (⟨(T "dict"), none, (.dict #[E x "__module__" 482 (S "snowballstemmer.esperanto_stemmer" 473), E x "__qualname__" 484 (S "EsperantoStemmer" 483), E x "__firstlineno__" 486 (.int 204 485), E x "g_vowel" 497 (R 232), E x "g_aou" 499 (S "aou" 498), E x "g_digit" 520 (R 233), E x "r_canonical_form" 530 (R 240), E x "r_initial_apostrophe" 537 (R 247), E x "r_pronoun" 545 (R 254), E x "r_final_apostrophe" 553 (R 261), E x "r_ujn_suffix" 562 (R 268), E x "r_uninflected" 569 (R 275), E x "r_merged_numeral" 576 (R 282), E x "r_correlative" 589 (R 289), E x "r_long_word" 598 (R 296), E x "r_standard_suffix" 608 (R 303), E x "_stem" 624 (R 310), E x "a_0" 847 (R 362), E x "a_1" 936 (R 381), E x "a_2" 1186 (R 433), E x "a_3" 1483 (R 494), E x "a_4" 1514 (R 501), E x "a_5" 1873 (R 574), E x "a_6" 1919 (R 584), E x "a_7" 1950 (R 591), E x "a_8" 2053 (R 613), E x "a_9" 2328 (R 671)] 27), #[]⟩) (t1314 x) (lf (o331 x))))) (t1512 x)) (t1528 x))) (nd (o4 x) (nd (o5 x) (nd (o46 x) (nd (o47 x) (t1533 x) (t1339 x)) (t1541 x)) (t1557 x)) (t1586 x))) (nd (o6 x) (nd (o7 x) (nd (o8 x) (nd (o8 x) (nd (o3 x) (t1591 x) (nd (o79 x) (nd (o80 x) (nd (o173 x) (lf (o430 x)) .nil) (lf (o297 x))) (t1384 x))) (t1599 x)) (t1615 x)) (nd (o145 x) (nd (o96 x) (nd (o3 x) (t1619 x) (t1407 x)) (t1627 x)) (t1643 x))) (nd (o9 x) (nd (o10 x) (nd (o3 x) (nd (o111 x) (t1648 x) (t1430 x)) (t1656 x)) (t1672 x)) (t1704 x)))
def sC23 (w : World) (v d : Obj) (os : OsState) : SharedT := ⟨(t1707 ⟨w.params, v, d⟩), 672, {}, #[], {}, 2329, os⟩
def o566 (x : X) : Obj := ⟨(T "type"), none, (.cls { name := "BaseStemmer", bases := [(T "object")], mro := [(R 199), (T "object")], ns := 198, qualname := "BaseStemmer", hasDict := true, slotNames := [], subclasses := [(R 674)], abstract := false, collection := none, hasDel := false }), #[none, none, (some (S "BaseStemmer" 196)), (some (S "BaseStemmer" 204)), (some (B "object.__new__")), (some (.bool true))]⟩
def t1714 (x : X) : BT := nd (o8 x) (nd (o8 x) (lf (o402 x)) .nil) (nd (o277 x) (lf (⟨(T "super"), none, (.fields #[(R 674), (R 674), (R 674)]), #[]⟩)) .nil)
def o568 (x : X) : Obj := ⟨(T "dict"), none, (.dict #[E x "__module__" 482 (S "snowballstemmer.esperanto_stemmer" 473), E x "__qualname__" 484 (S "EsperantoStemmer" 483), E x "__firstlineno__" 486 (.int 204 485), E x "g_vowel" 497 (R 232), E x "g_aou" 499 (S "aou" 498), E x "g_digit" 520 (R 233), E x "r_canonical_form" 530 (R 240), E x "r_initial_apostrophe" 537 (R 247), E x "r_pronoun" 545 (R 254), E x "r_final_apostrophe" 553 (R 261), E x "r_ujn_suffix" 562 (R 268), E x "r_uninflected" 569 (R 275), E x "r_merged_numeral" 576 (R 282), E x "r_correlative" 589 (R 289), E x "r_long_word" 598 (R 296), E x "r_standard_suffix" 608 (R 303), E x "_stem" 624 (R 310), E x "a_0" 847 (R 362), E x "a_1" 936 (R 381), E x "a_2" 1186 (R 433), E x "a_3" 1483 (R 494), E x "a_4" 1514 (R 501), E x "a_5" 1873 (R 574), E x "a_6" 1919 (R 584), E x "a_7" 1950 (R 591), E x "a_8" 2053 (R 613), E x "a_9" 2328 (R 671), E x "__static_attributes__" 2333 (R 672)] 28), #[]⟩
def o569 (x : X) : Obj := ⟨(T "dict"), none, (.dict #[E x "__module__" 482 (S "snowballstemmer.esperanto_stemmer" 473), E x "__firstlineno__" 486 (.int 204 485), E x "g_vowel" 497 (R 232), E x "g_aou" 499 (S "aou" 498), E x "g_digit" 520 (R 233), E x "r_canonical_form" 530 (R 240), E x "r_initial_apostrophe" 537 (R 247), E x "r_pronoun" 545 (R 254), E x "r_final_apostrophe" 553 (R 261), E x "r_ujn_suffix" 562 (R 268), E x "r_uninflected" 569 (R 275), E x "r_merged_numeral" 576 (R 282), E x "r_correlative" 589 (R 289), E x "r_long_word" 598 (R 296), E x "r_standard_suffix" 608 (R 303), E x "_stem" 624 (R 310), E x "a_0" 847 (R 362), E x "a_1" 936 (R 381), E x "a_2" 1186 (R 433), E x "a_3" 1483 (R 494), E x "a_4" 1514 (R 501), E x "a_5" 1873 (R 574), E x "a_6" 1919 (R 584), E x "a_7" 1950 (R 591), E x "a_8" 2053 (R 613), E x "a_9" 2328 (R 671), E x "__static_attributes__" 2333 (R 672), E x "__doc__" 2334 N] 2), #[]⟩
def t1722 (x : X) : BT := nd (o50 x) (nd (o163 x) (lf (⟨(R 220), (some 544), .plain, #[]⟩)) .nil) (nd (o284 x) (lf (o569 x)) .nil)
def t1730 (x : X) : BT := nd (o80 x) (nd (o173 x) (lf (o430 x)) .nil) (nd (o297 x) (lf (⟨(T "tuple"), none, (.seq #[(S "bra" 2329), (S "cursor" 2330), (S "ket" 2331), (S "limit_backward" 2332)] 0), #[]⟩)) .nil)
def t1736 (x : X) : BT := nd (o100 x) (nd (o179 x) (lf (⟨(R 220), (some 547), .plain, #[]⟩)) .nil) (nd (o304 x) (lf (⟨(T "builtin_function_or_method"), none, (.fields #[(B "object.__init_subclass__"), (R 674)]), #[]⟩)) .nil)
def o572 (x : X) : Obj := ⟨(T "type"), none, (.cls { name := "EsperantoStemmer", bases := [(R 199)], mro := [(R 674), (R 199), (T "object")], ns := 673, qualname := "EsperantoStemmer", hasDict := true, slotNames := [], subclasses := [], abstract := false, collection := none, hasDel := false }), #[(some (R 225)), none, (some (S "EsperantoStemmer" 475)), (some (S "EsperantoStemmer" 483)), (some (B "object.__new__")), (some (.bool true))]⟩
def t1750 (x : X) : BT := nd (o0 x) (nd (o1 x) (nd (⟨(T "dict"), none, (.dict #[E x "__name__" 165 (S "snowballstemmer.esperanto_stemmer" 473), E x "__doc__" 166 N, E x "__package__" 167 N, E x "__loader__" 168 (B "__main__.__loader__#opaque"), E x "__spec__" 169 N, E x "__annotations__" 170 (R 6), E x "__builtins__" 171 (R 4), E x "__file__" 173 (S "/claim/cut.py" 172), E x "__cached__" 174 N, E x "_wall" 193 (R 21), E x "BaseStemmer" 437 (R 199), E x "Among" 472 (R 220), E x "EsperantoStemmer" 2336 (R 674)] 13), #[]⟩) (nd (o3 x) (t1483 x) (nd (o22 x) (nd (o3 x) (nd (o3 x) (nd (o8 x) (nd (o8 x) (lf (o396 x)) .nil) (nd (o273 x) (lf (o510 x)) .nil)) (nd (o566 x) (t1301 x) (lf (o325 x)))) (t1489 x)) (t1497 x))) (nd (o3 x) (nd (o30 x) (nd (o31 x) (t1502 x) (nd (o3 x) (t1714 x) (nd (o568 x) (t1314 x) (lf (o331 x))))) (t1512 x)) (t1528 x))) (nd (o4 x) (nd (o5 x) (nd (o46 x) (nd (o47 x) (t1533 x) (nd (o49 x) (t1722 x) (nd (o144 x) (t1337 x) (lf (o339 x))))) (t1541 x)) (t1557 x)) (t1586 x))) (nd (o6 x) (nd (o7 x) (nd (o8 x) (nd (o8 x) (nd (o3 x) (t1591 x) (nd (o79 x) (t1730 x) (t1384 x))) (t1599 x)) (t1615 x)) (nd (o145 x) (nd (o96 x) (nd (o3 x) (t1619 x) (nd (o8 x) (t1736 x) (nd (o3 x) (t1405 x) (lf (o361 x))))) (t1627 x)) (t1643 x))) (nd (o9 x) (nd (o10 x) (nd (o3 x) (nd (o111 x) (t1648 x) (nd (o114 x) (nd (o3 x) (t1224 x) (nd (o310 x) (lf (o572 x)) .nil)) (nd (o22 x) (nd (o237 x) (lf (o498 x)) .nil) (lf (o369 x))))) (t1656 x)) (t1672 x)) (t1704 x)))
def sTop6 (w : World) (v d : Obj) (os : OsState) : SharedT := ⟨(t1750 ⟨w.params, v, d⟩), 677, {}, #[], {}, 2337, os⟩
def o573 (x : X) : Obj := ⟨(T "dict"), none, (.dict #[E x "__name__" 165 (S "law_is0015_01" 2377), E x "__doc__" 166 N, E x "__package__" 167 N, E x "__loader__" 168 (B "__main__.__loader__#opaque"), E x "__spec__" 169 N, E x "__annotations__" 170 (R 6), E x "__builtins__" 171 (R 4), E x "__file__" 173 (S "/claim/cut.py" 172), E x "__cached__" 174 N, E x "_wall" 193 (R 21), E x "BaseStemmer" 437 (R 199), E x "Among" 472 (R 220), E x "EsperantoStemmer" 2336 (R 674), E x "lab0" 2356 (R 686), E x "lab1" 2376 (R 699), E x "_law_vowels" 2384 (R 709), E x "_law_digits" 2390 (R 716), E x "_law_pronouns" 2408 (R 717), E x "_law_heads" 2414 (R 724), E x "_law_stays" 2439 (R 725), E x "_law_numerals" 2446 (R 726), E x "_law_shapes" 2452 (R 733), E x "_law_adds" 2458 (R 740), E x "_law_pieces" 2527 (R 741), E x "_law_marked" 2536 (R 748), E x "_law_hatted" 2545 (R 755), E x "_law_among" 2554 (R 762), E x "_law_left" 2560 (R 767), E x "_law_again" 2566 (R 772), E x "_law_word" 2572 (R 777), E x "law" 2578 (R 782)] 31), #[]⟩
def o574 (x : X) : Obj := ⟨(T "function"), none, (.func (fn (st1 22) "_law_left" 3 N N N (S "law_is0015_01" 2377) none (R 766) N 0)), #[]⟩
def o580 (x : X) : Obj := ⟨(T "code"), none, (.fields #[(S "_law_again" 2561), (S "_law_again" 2562), (S "/claim/cut.py" 2563), (I 688), (I 1), (I 0), (I 0), (I 3), (R 768), (.bool true), (I 181), (R 769), N, N, N, (R 770), (I 2564), (I 688), (S "/claim/cut.py" 2565)]), #[]⟩
def o582 (x : X) : Obj := ⟨(T "code"), none, (.fields #[(S "_law_adds" 2453), (S "_law_adds" 2454), (S "/claim/cut.py" 2455), (I 632), (I 0), (I 0), (I 0), (I 3), (R 734), (.bool true), (I 181), (R 735), N, (R 736), (R 737), (R 738), (I 2456), (I 632), (S "/claim/cut.py" 2457)]), #[]⟩
def o583 (x : X) : Obj := ⟨(T "code"), none, (.fields #[(S "_law_heads" 2409), (S "_law_heads" 2410), (S "/claim/cut.py" 2411), (I 626), (I 0), (I 0), (I 0), (I 3), (R 718), (.bool true), (I 181), (R 719), N, (R 720), (R 721), (R 722), (I 2412), (I 626), (S "/claim/cut.py" 2413)]), #[]⟩
def o584 (x : X) : Obj := ⟨(T "function"), none, (.func (fn (st1 20) "_law_hatted" 3 N N N (S "law_is0015_01" 2377) none (R 754) N 0)), #[]⟩
def o585 (x : X) : Obj := ⟨(T "code"), none, (.fields #[(S "_law_digits" 2385), (S "_law_digits" 2386), (S "/claim/cut.py" 2387), (I 623), (I 0), (I 0), (I 0), (I 3), (R 710), (.bool true), (I 181), (R 711), N, (R 712), (R 713), (R 714), (I 2388), (I 623), (S "/claim/cut.py" 2389)]), #[]⟩
def o587 (x : X) : Obj := ⟨(T "code"), none, (.fields #[(S "_law_marked" 2528), (S "_law_marked" 2529), (S "/claim/cut.py" 2530), (I 635), (I 1), (I 0), (I 0), (I 3), (R 742), (.bool true), (I 181), (R 743), N, (R 744), (R 745), (R 746), (I 2534), (I 635), (S "/claim/cut.py" 2535)]), #[]⟩
def o589 (x : X) : Obj := ⟨(T "type"), none, (.cls { name := "lab1", bases := [(T "Exception")], mro := [(R 699), (T "Exception"), (T "BaseException"), (T "object")], ns := 698, qualname := "lab1", hasDict := true, slotNames := [], subclasses := [], abstract := false, collection := none, hasDel := false }), #[(some (R 690)), none, (some (S "lab1" 2357)), (some (S "lab1" 2365)), (some (B "Exception.__new__")), (some (.bool true))]⟩
def o592 (x : X) : Obj := ⟨(T "function"), none, (.func (fn (st1 24) "_law_word" 3 N N N (S "law_is0015_01" 2377) none (R 776) N 0)), #[]⟩
def o593 (x : X) : Obj := ⟨(T "code"), none, (.fields #[(S "_law_among" 2546), (S "_law_among" 2547), (S "/claim/cut.py" 2548), (I 650), (I 2), (I 0), (I 0), (I 3), (R 756), (.bool true), (I 181), (R 757), N, (R 758), (R 759), (R 760), (I 2552), (I 650), (S "/claim/cut.py" 2553)]), #[]⟩
def o594 (x : X) : Obj := ⟨(T "function"), none, (.func (fn (st1 10) "_law_vowels" 3 N N N (S "law_is0015_01" 2377) none (R 708) N 0)), #[]⟩
def o596 (x : X) : Obj := ⟨(T "list"), none, (.seq #[(S "a" 2459), (S "e" 2460), (S "i" 2461), (S "o" 2462), (S "u" 2463), (S "b" 2464), (S "c" 2465), (S "d" 2466), (S "f" 2467), (S "g" 2468), (S "h" 2469), (S "j" 2470), (S "k" 2471), (S "l" 2472), (S "m" 2473), (S "n" 2474), (S "p" 2475), (S "r" 2476), (S "s" 2477), (S "t" 2478), (S "v" 2479), (S "z" 2480), (S "q" 2481), (S "w" 2482), (S "x" 2483), (S "y" 2484), (S "ĉ" 2485), (S "ĝ" 2486), (S "ĥ" 2487), (S "ĵ" 2488), (S "ŝ" 2489), (S "ŭ" 2490), (S "á" 2491), (S "é" 2492), (S "í" 2493), (S "ó" 2494), (S "ú" 2495), (S "0" 2496), (S "1" 2497), (S "2" 2498), (S "3" 2499), (S "4" 2500), (S "5" 2501), (S "6" 2502), (S "7" 2503), (S "8" 2504), (S "9" 2505), (S "-" 2506), (S "A" 2507), (S "N" 2508), (S "ü" 2509), (S " " 2510), (S "cx" 2511), (S "gx" 2512), (S "hx" 2513), (S "jx" 2514), (S "sx" 2515), (S "ux" 2516), (S "úx" 2517), (S "-q" 2518), (S "dom" 2519), (S "kat" 2520), (S "bel" 2521), (S "mal" 2522), (S "dek" 2523), (S "cent" 2524), (S "est" 2525), (S "st" 2526)] 0), #[]⟩
def o597 (x : X) : Obj := ⟨(T "list"), none, (.seq #[(S "aha" 2415), (S "haha" 2416), (S "ĥaĥa" 2417), (S "ehe" 2418), (S "oho" 2419), (S "uhu" 2420), (S "muu" 2421), (S "haleluja" 2422), (S "hola" 2423), (S "hosana" 2424), (S "hura" 2425), (S "maltra" 2426), (S "maltre" 2427), (S "maltro" 2428), (S "malpli" 2429), (S "malĉi" 2430), (S "malkaj" 2431), (S "ekde" 2432), (S "elde" 2433), (S "disde" 2434), (S "dirlididi" 2435), (S "amen" 2436), (S "tamen" 2437), (S "minus" 2438)] 0), #[]⟩
def o598 (x : X) : Obj := ⟨(T "code"), none, (.fields #[(S "law" 2573), (S "law" 2574), (S "/claim/cut.py" 2575), (I 706), (I 1), (I 0), (I 0), (I 3), (R 778), (.bool true), (I 181), (R 779), N, N, N, (R 780), (I 2576), (I 706), (S "/claim/cut.py" 2577)]), #[]⟩
def o599 (x : X) : Obj := ⟨(T "list"), none, (.seq #[(S "mi" 2391), (S "ci" 2392), (S "vi" 2393), (S "ivi" 2394), (S "li" 2395), (S "ili" 2396), (S "ŝli" 2397), (S "ri" 2398), (S "gi" 2399), (S "ĝi" 2400), (S "hi" 2401), (S "ŝi" 2402), (S "iŝi" 2403), (S "malŝi" 2404), (S "ni" 2405), (S "oni" 2406), (S "si" 2407)] 0), #[]⟩
def o600 (x : X) : Obj := ⟨(T "dict"), none, (.dict #[E x "__module__" 2344 (S "snowballstemmer.esperanto_stemmer" 473), E x "__firstlineno__" 2348 (.int 616 2347), E x "__static_attributes__" 2349 (R 684), E x "__weakref__" 2351 (R 687), E x "__doc__" 2352 N] 3), #[]⟩
def o601 (x : X) : Obj := ⟨(T "function"), none, (.func (fn (st1 16) "_law_shapes" 3 N N N (S "law_is0015_01" 2377) none (R 732) N 0)), #[]⟩
def o604 (x : X) : Obj := ⟨N, none, (.dict #[E x "type.__subclasses__.Exception.0" 2353 (I 686), E x "type.__subclasses__.Exception.n" 2354 (I 2), E x "type.__subclasses__.Exception.1" 2373 (I 699)] 3), #[]⟩
def o606 (x : X) : Obj := ⟨(T "code"), none, (.fields #[(S "_law_word" 2567), (S "_law_word" 2568), (S "/claim/cut.py" 2569), (I 697), (I 1), (I 0), (I 0), (I 3), (R 773), (.bool true), (I 181), (R 774), N, N, N, (R 775), (I 2570), (I 697), (S "/claim/cut.py" 2571)]), #[]⟩
def o611 (x : X) : Obj := ⟨(T "function"), none, (.func (fn (st1 23) "_law_again" 3 N N N (S "law_is0015_01" 2377) none (R 771) N 0)), #[]⟩
def o612 (x : X) : Obj := ⟨(T "code"), none, (.fields #[(S "_law_vowels" 2379), (S "_law_vowels" 2380), (S "/claim/cut.py" 2381), (I 621), (I 0), (I 0), (I 0), (I 3), (R 703), (.bool true), (I 181), (R 704), N, (R 705), (R 706), (R 707), (I 2382), (I 621), (S "/claim/cut.py" 2383)]), #[]⟩
def o613 (x : X) : Obj := ⟨(T "function"), none, (.func (fn (st1 17) "_law_adds" 3 N N N (S "law_is0015_01" 2377) none (R 739) N 0)), #[]⟩
def o614 (x : X) : Obj := ⟨(T "function"), none, (.func (fn (st1 13) "_law_heads" 3 N N N (S "law_is0015_01" 2377) none (R 723) N 0)), #[]⟩
def o617 (x : X) : Obj := ⟨(T "function"), none, (.func (fn (st1 11) "_law_digits" 3 N N N (S "law_is0015_01" 2377) none (R 715) N 0)), #[]⟩
def o618 (x : X) : Obj := ⟨(T "function"), none, (.func (fn (st1 19) "_law_marked" 3 N N N (S "law_is0015_01" 2377) none (R 747) N 0)), #[]⟩
def o619 (x : X) : Obj := ⟨(T "code"), none, (.fields #[(S "_law_shapes" 2447), (S "_law_shapes" 2448), (S "/claim/cut.py" 2449), (I 630), (I 0), (I 0), (I 0), (I 3), (R 727), (.bool true), (I 181), (R 728), N, (R 729), (R 730), (R 731), (I 2450), (I 630), (S "/claim/cut.py" 2451)]), #[]⟩
def o624 (x : X) : Obj := ⟨(T "code"), none, (.fields #[(S "_law_hatted" 2537), (S "_law_hatted" 2538), (S "/claim/cut.py" 2539), (I 642), (I 1), (I 0), (I 0), (I 3), (R 749), (.bool true), (I 181), (R 750), N, (R 751), (R 752), (R 753), (I 2543), (I 642), (S "/claim/cut.py" 2544)]), #[]⟩
def o628 (x : X) : Obj := ⟨(T "dict"), none, (.dict #[E x "__module__" 2364 (S "snowballstemmer.esperanto_stemmer" 473), E x "__firstlineno__" 2368 (.int 618 2367), E x "__static_attributes__" 2369 (R 697), E x "__weakref__" 2371 (R 700), E x "__doc__" 2372 N] 3), #[]⟩
def o629 (x : X) : Obj := ⟨(T "function"), none, (.func (fn (st1 21) "_law_among" 3 N N N (S "law_is0015_01" 2377) none (R 761) N 0)), #[]⟩
def o630 (x : X) : Obj := ⟨(T "list"), none, (.seq #[(S "dekunu" 2440), (S "dekdu" 2441), (S "dektri" 2442), (S "centunu" 2443), (S "centdu" 2444), (S "centtri" 2445)] 0), #[]⟩
def o632 (x : X) : Obj := ⟨(T "function"), none, (.func (fn (st1 25) "law" 3 N N N (S "law_is0015_01" 2377) none (R 781) N 0)), #[]⟩
def o633 (x : X) : Obj := ⟨(T "type"), none, (.cls { name := "lab0", bases := [(T "Exception")], mro := [(R 686), (T "Exception"), (T "BaseException"), (T "object")], ns := 685, qualname := "lab0", hasDict := true, slotNames := [], subclasses := [], abstract := false, collection := none, hasDel := false }), #[(some (R 677)), none, (some (S "lab0" 2337)), (some (S "lab0" 2345)), (some (B "Exception.__new__")), (some (.bool true))]⟩
def o635 (x : X) : Obj := ⟨(T "code"), none, (.fields #[(S "_law_left" 2555), (S "_law_left" 2556), (S "/claim/cut.py" 2557), (I 655), (I 2), (I 0), (I 0), (I 3), (R 763), (.bool true), (I 181), (R 764), N, N, N, (R 765), (I 2558), (I 655), (S "/claim/cut.py" 2559)]), #[]⟩
def t2089 (x : X) : BT := nd (o0 x) (nd (o1 x) (nd (o573 x) (nd (o3 x) (nd (o3 x) (nd (o14 x) (nd (o15 x) (nd (o3 x) (nd (o3 x) (lf (o392 x)) (lf (o574 x))) (nd (o269 x) (lf (⟨(R 220), (some 638), .plain, #[]⟩)) .nil)) (nd (o8 x) (nd (o196 x) (lf (o466 x)) .nil) (nd (⟨(R 220), (some 446), .plain, #[]⟩) (lf (o3 x)) .nil))) (nd (o3 x) (nd (o16 x) (t1027 x) (nd (o270 x) (lf (o507 x)) .nil)) (nd (o17 x) (nd (o197 x) (lf (o467 x)) .nil) (nd (o323 x) (lf (o8 x)) .nil)))) (nd (o18 x) (nd (o8 x) (t1477 x) (nd (o3 x) (nd (o198 x) (lf (⟨(T "list"), none, (.seq #[(R 586), (R 589)] 0), #[]⟩)) .nil) (nd (o324 x) (lf (o8 x)) .nil))) (nd (o20 x) (nd (o21 x) (nd (o152 x) (lf (o395 x)) .nil) (nd (o272 x) (lf (⟨(T "getset_descriptor"), none, (.fields #[(S "__weakref__" 2350), (R 686), (B "ExceptionGroup.__weakref__"), N]), #[]⟩)) .nil)) (nd (o153 x) (nd (⟨(R 220), (some 366), .plain, #[]⟩) (lf (o509 x)) .nil) (nd (o384 x) (lf (⟨(T "tuple"), none, (.seq #[(S "word" 2540), (S "signs" 2541), (S "sign" 2542)] 0), #[]⟩)) .nil))))) (nd (o22 x) (nd (o3 x) (nd (o3 x) (nd (o8 x) (nd (o8 x) (lf (o396 x)) (lf (⟨N, none, (.func (fn (st1 24) "_law_word" 0 N N N N none N N 0)), #[]⟩))) (nd (o273 x) (lf (o510 x)) .nil)) (nd (o566 x) (t1301 x) (nd (o325 x) (lf (o8 x)) .nil))) (nd (o24 x) (nd (o25 x) (nd (o154 x) (lf (⟨(R 220), (some 550), .plain, #[]⟩)) .nil) (nd (o274 x) (lf (⟨(T "dict"), none, (.dict #[E x "__module__" 2344 (S "snowballstemmer.esperanto_stemmer" 473), E x "__qualname__" 2346 (S "lab0" 2345), E x "__firstlineno__" 2348 (.int 616 2347), E x "__static_attributes__" 2349 (R 684)] 4), #[]⟩)) .nil)) (nd (o142 x) (nd (o200 x) (lf (⟨(R 220), (some 614), .plain, #[]⟩)) .nil) (nd (o326 x) (lf (o8 x)) .nil)))) (nd (o26 x) (nd (o27 x) (t1492 x) (nd (o28 x) (nd (o201 x) (lf (⟨(R 220), (some 598), .plain, #[]⟩)) .nil) (nd (⟨(R 220), (some 470), .plain, #[]⟩) (lf (o3 x)) .nil))) (nd (o29 x) (nd (o3 x) (t1049 x) (nd (o328 x) (lf (⟨(T "code"), none, (.fields #[(S "lab1" 2359), (S "lab1" 2360), (S "/claim/cut.py" 2361), (I 618), (I 0), (I 0), (I 0), (I 0), (R 693), (.bool false), (I 181), (R 694), N, N, N, N, (I 2362), (I 618), (S "/claim/cut.py" 2363)]), #[]⟩)) .nil)) (nd (o155 x) (t1494 x) (nd (o400 x) (lf (o3 x)) .nil)))))) (nd (o3 x) (nd (o30 x) (nd (o31 x) (nd (o3 x) (nd (o32 x) (nd (o156 x) (lf (⟨(R 220), (some 514), .plain, #[]⟩)) (lf (o580 x))) (t1500 x)) (nd (o33 x) (nd (o203 x) (lf (⟨(R 220), (some 578), .plain, #[]⟩)) .nil) (nd (o329 x) (lf (⟨N, none, (.func (fn (st1 10) "_law_vowels" 0 N N N N none N N 0)), #[]⟩)) .nil))) (nd (o3 x) (t1714 x) (nd (o568 x) (t1314 x) (nd (o331 x) (lf (o582 x)) .nil)))) (nd (o8 x) (nd (o34 x) (nd (o35 x) (t1064 x) (nd (o279 x) (lf (o516 x)) .nil)) (nd (o3 x) (nd (o206 x) (lf (o474 x)) .nil) (nd (o332 x) (lf (o583 x)) .nil))) (nd (o36 x) (nd (o3 x) (nd (o3 x) (lf (⟨(R 220), (some 562), .plain, #[]⟩)) .nil) (nd (⟨(R 220), (some 434), .plain, #[]⟩) (lf (o22 x)) .nil)) (nd (o159 x) (nd (o252 x) (lf (⟨(R 220), (some 626), .plain, #[]⟩)) .nil) (nd (o386 x) (lf (o584 x)) .nil))))) (nd (o37 x) (nd (o3 x) (nd (o38 x) (nd (o39 x) (nd (o160 x) (lf (o406 x)) (lf (o8 x))) (nd (o280 x) (lf (⟨(R 220), (some 650), .plain, #[]⟩)) .nil)) (nd (o40 x) (t1323 x) (nd (⟨(R 220), (some 458), .plain, #[]⟩) (lf (o585 x)) .nil))) (nd (o8 x) (nd (o41 x) (t1075 x) (nd (o281 x) (lf (⟨(T "frame"), none, .plain, #[(some (R 682)), (some (R 3)), (some (R 679)), none, (some (S "snowballstemmer.esperanto_stemmer" 473)), none, (some (R 0))]⟩)) .nil)) (nd (o8 x) (t1517 x) (nd (o335 x) (lf (o587 x)) .nil)))) (nd (o42 x) (nd (o43 x) (t1522 x) (nd (o44 x) (t1327 x) (nd (o336 x) (lf (⟨N, none, (.func (fn (st1 16) "_law_shapes" 0 N N N N none N N 0)), #[]⟩)) .nil))) (nd (o3 x) (nd (o45 x) (nd (o209 x) (lf (o409 x)) .nil) (nd (o337 x) (lf (o589 x)) .nil)) (nd (o3 x) (nd (⟨(R 220), (some 378), .plain, #[]⟩) (lf (o521 x)) .nil) (nd (o410 x) (lf (o3 x)) .nil))))))) (nd (o4 x) (nd (o5 x) (nd (o46 x) (nd (o47 x) (nd (o8 x) (nd (o48 x) (nd (o162 x) (lf (o411 x)) (lf (o8 x))) (nd (o283 x) (lf (o522 x)) .nil)) (nd (o3 x) (t1334 x) (nd (o338 x) (lf (o3 x)) .nil))) (nd (o49 x) (t1722 x) (nd (o144 x) (t1337 x) (nd (o339 x) (lf (o3 x)) .nil)))) (nd (o51 x) (nd (o3 x) (t1536 x) (nd (o53 x) (nd (o212 x) (lf (⟨(R 220), (some 592), .plain, #[]⟩)) .nil) (nd (⟨(R 220), (some 464), .plain, #[]⟩) (lf (o3 x)) .nil))) (nd (o3 x) (nd (o8 x) (t1100 x) (nd (o286 x) (lf (⟨(T "builtin_function_or_method"), none, (.fields #[(B "object.__init_subclass__"), (R 686)]), #[]⟩)) .nil)) (nd (o3 x) (t1538 x) (nd (o387 x) (lf (⟨N, none, (.func (fn (st1 20) "_law_hatted" 0 N N N N none N N 0)), #[]⟩)) .nil))))) (nd (o3 x) (nd (o54 x) (nd (o55 x) (nd (o3 x) (nd (o3 x) (lf (⟨(R 220), (some 520), .plain, #[]⟩)) (lf (o592 x))) (t1543 x)) (nd (o56 x) (nd (o213 x) (lf (o480 x)) .nil) (nd (o341 x) (lf (o3 x)) .nil))) (nd (o57 x) (nd (o3 x) (nd (o3 x) (lf (o416 x)) .nil) (nd (o288 x) (lf (o8 x)) .nil)) (nd x.d (nd (o214 x) (lf (o526 x)) .nil) (nd (⟨(R 220), (some 488), .plain, #[]⟩) (lf (o3 x)) .nil)))) (nd (o3 x) (nd (o58 x) (nd (o59 x) (t1112 x) (nd (o289 x) (lf (o527 x)) .nil)) (nd (o60 x) (nd (o215 x) (lf (o481 x)) .nil) (nd (o343 x) (lf (o3 x)) .nil))) (nd (o8 x) (nd (o61 x) (nd (o216 x) (lf (⟨(R 220), (some 568), .plain, #[]⟩)) .nil) (nd (⟨(R 220), (some 440), .plain, #[]⟩) (lf (o3 x)) .nil)) (nd (o8 x) (nd (o256 x) (lf (⟨(R 220), (some 632), .plain, #[]⟩)) .nil) (nd (o419 x) (lf (o593 x)) .nil)))))) (nd (o11 x) (nd (o62 x) (nd (o8 x) (nd (o63 x) (nd (o64 x) (nd (o166 x) (lf (o420 x)) (lf (o3 x))) (nd (o290 x) (lf (⟨(R 220), (some 644), .plain, #[]⟩)) .nil)) (nd (o65 x) (nd (o217 x) (lf (o482 x)) .nil) (nd (⟨(R 220), (some 452), .plain, #[]⟩) (lf (o594 x)) .nil))) (nd (o66 x) (nd (o3 x) (t1125 x) (nd (o291 x) (lf (⟨(T "tuple"), none, (.seq #[(T "Exception")] 0), #[]⟩)) .nil)) (nd (o167 x) (nd (o218 x) (lf (o483 x)) .nil) (nd (o346 x) (lf (o596 x)) .nil)))) (nd (o3 x) (nd (o3 x) (t1564 x) (nd (o67 x) (t1363 x) (nd (o347 x) (lf (o597 x)) .nil))) (nd (o68 x) (nd (o69 x) (nd (o168 x) (lf (o423 x)) .nil) (nd (o348 x) (lf (o3 x)) .nil)) (nd (o169 x) (nd (⟨(R 220), (some 372), .plain, #[]⟩) (lf (o531 x)) .nil) (nd (o388 x) (lf (o8 x)) .nil))))) (nd (o3 x) (nd (o70 x) (nd (o71 x) (nd (o3 x) (nd (o3 x) (lf (o424 x)) (lf (o598 x))) (nd (o293 x) (lf (o532 x)) .nil)) (nd (o22 x) (nd (o220 x) (lf (⟨(R 220), (some 588), .plain, #[]⟩)) .nil) (nd (o349 x) (lf (o599 x)) .nil))) (nd (o3 x) (nd (o72 x) (nd (o170 x) (lf (⟨(R 220), (some 556), .plain, #[]⟩)) .nil) (nd (o294 x) (lf (o600 x)) .nil)) (nd (o3 x) (nd (o258 x) (lf (⟨(R 220), (some 620), .plain, #[]⟩)) .nil) (nd (o350 x) (lf (o3 x)) .nil)))) (nd (o73 x) (nd (o8 x) (t1579 x) (nd (o75 x) (nd (o221 x) (lf (⟨(R 220), (some 604), .plain, #[]⟩)) .nil) (nd (⟨(R 220), (some 476), .plain, #[]⟩) (lf (o601 x)) .nil))) (nd (o76 x) (nd (o77 x) (t1147 x) (nd (o352 x) (lf (⟨(T "super"), none, (.fields #[(R 699), (R 699), (R 699)]), #[]⟩)) .nil)) (nd (o172 x) (t1581 x) (nd (o428 x) (lf (⟨N, none, (.func (fn (st1 22) "_law_left" 0 N N N N none N N 0)), #[]⟩)) .nil)))))))) (nd (o604 x) (nd (o7 x) (nd (o8 x) (nd (o8 x) (nd (o3 x) (nd (o3 x) (nd (o8 x) (nd (o8 x) (lf (⟨(R 220), (some 511), .plain, #[]⟩)) (lf (o3 x))) (t1589 x)) (nd (o78 x) (nd (o223 x) (lf (⟨(R 220), (some 575), .plain, #[]⟩)) .nil) (nd (o353 x) (lf (o8 x)) .nil))) (nd (o79 x) (t1730 x) (nd (o81 x) (nd (o224 x) (lf (⟨(R 220), (some 607), .plain, #[]⟩)) .nil) (nd (⟨(R 220), (some 479), .plain, #[]⟩) (lf (o3 x)) .nil)))) (nd (o82 x) (nd (o83 x) (nd (o3 x) (t1163 x) (nd (o298 x) (lf (o537 x)) .nil)) (nd (o84 x) (nd (o225 x) (lf (o489 x)) .nil) (nd (o355 x) (lf (o3 x)) .nil))) (nd (o85 x) (nd (o3 x) (nd (o3 x) (lf (⟨(R 220), (some 559), .plain, #[]⟩)) .nil) (nd (o299 x) (lf (⟨(T "super"), none, (.fields #[(R 686), (R 686), (R 686)]), #[]⟩)) .nil)) (nd (o174 x) (nd (o260 x) (lf (⟨(R 220), (some 623), .plain, #[]⟩)) .nil) (nd (o389 x) (lf (o3 x)) .nil))))) (nd (o86 x) (nd (o87 x) (nd (o8 x) (nd (o88 x) (nd (o175 x) (lf (o433 x)) (lf (o606 x))) (nd (o300 x) (lf (⟨(R 220), (some 647), .plain, #[]⟩)) .nil)) (nd (o89 x) (nd (o226 x) (lf (⟨(T "list"), none, (.seq #[(R 576), (R 579), (R 582)] 0), #[]⟩)) .nil) (nd (⟨(R 220), (some 455), .plain, #[]⟩) (lf (o3 x)) .nil))) (nd (o90 x) (nd (o91 x) (t1174 x) (nd (o301 x) (lf (o3 x)) .nil)) (nd x.v (t1604 x) (nd (o357 x) (lf (⟨(T "tuple"), none, (.seq #[(S "word" 2531), (S "before" 2532), (S "sign" 2533)] 0), #[]⟩)) .nil)))) (nd (o92 x) (nd (o3 x) (t1609 x) (nd (o94 x) (t1396 x) (nd (o358 x) (lf (o8 x)) .nil))) (nd (o3 x) (nd (o8 x) (nd (o229 x) (lf (o436 x)) .nil) (nd (o359 x) (lf (⟨(T "frame"), none, .plain, #[(some (R 695)), (some (R 3)), (some (R 692)), none, (some (S "snowballstemmer.esperanto_stemmer" 473)), none, (some (R 0))]⟩)) .nil)) (nd (o3 x) (nd (⟨(R 220), (some 375), .plain, #[]⟩) (lf (o542 x)) .nil) (nd (o437 x) (lf (⟨N, none, (.func (fn (st1 21) "_law_among" 0 N N N N none N N 0)), #[]⟩)) .nil)))))) (nd (⟨N, none, (.fields #[(I 1), (I 0), (R 20), (I 5), (I 0), (R 27), (I 197), (I 0), (R 209), (I 204), (I 0), (R 230), (I 616), (I 0), (R 682), (I 618), (I 0), (R 695), (I 621), (I 0), (R 708), (I 623), (I 0), (R 715), (I 626), (I 0), (R 723), (I 630), (I 0), (R 732), (I 632), (I 0), (R 739), (I 635), (I 0), (R 747), (I 642), (I 0), (R 754), (I 650), (I 0), (R 761), (I 655), (I 0), (R 766), (I 688), (I 0), (R 771), (I 697), (I 0), (R 776), (I 706), (I 0), (R 781)]), #[]⟩) (nd (o96 x) (nd (o3 x) (nd (o97 x) (nd (o98 x) (nd (o178 x) (lf (o438 x)) (lf (o611 x))) (nd (o303 x) (lf (o543 x)) .nil)) (nd (o99 x) (t1402 x) (nd (o360 x) (lf (o612 x)) .nil))) (nd (o8 x) (t1736 x) (nd (o3 x) (t1405 x) (nd (o361 x) (lf (o613 x)) .nil)))) (nd (o101 x) (nd (o102 x) (t1622 x) (nd (o8 x) (nd (o232 x) (lf (⟨(R 220), (some 595), .plain, #[]⟩)) .nil) (nd (⟨(R 220), (some 467), .plain, #[]⟩) (lf (o614 x)) .nil))) (nd (o3 x) (nd (o103 x) (t1198 x) (nd (o363 x) (lf (⟨(T "dict"), none, (.dict #[E x "__module__" 2364 (S "snowballstemmer.esperanto_stemmer" 473), E x "__qualname__" 2366 (S "lab1" 2365), E x "__firstlineno__" 2368 (.int 618 2367), E x "__static_attributes__" 2369 (R 697)] 4), #[]⟩)) .nil)) (nd (o3 x) (t1624 x) (nd (o390 x) (lf (o3 x)) .nil))))) (nd (o104 x) (nd (o8 x) (nd (o105 x) (nd (o106 x) (nd (o181 x) (lf (⟨(R 220), (some 523), .plain, #[]⟩)) (lf (⟨N, none, (.func (fn (st1 25) "law" 0 N N N N none N N 0)), #[]⟩))) (t1629 x)) (nd (o3 x) (nd (o233 x) (lf (o495 x)) .nil) (nd (o364 x) (lf (o617 x)) .nil))) (nd (o107 x) (nd (o3 x) (nd (o3 x) (lf (o443 x)) .nil) (nd (o307 x) (lf (o3 x)) .nil)) (nd (o182 x) (nd (⟨(R 220), (some 363), .plain, #[]⟩) (lf (o547 x)) .nil) (nd (⟨(R 220), (some 491), .plain, #[]⟩) (lf (o618 x)) .nil)))) (nd (o3 x) (nd (o3 x) (nd (o8 x) (t1210 x) (nd (o308 x) (lf (o548 x)) .nil)) (nd (o108 x) (nd (o234 x) (lf (o496 x)) .nil) (nd (o366 x) (lf (o619 x)) .nil))) (nd (o109 x) (nd (o110 x) (nd (o235 x) (lf (⟨(R 220), (some 571), .plain, #[]⟩)) .nil) (nd (⟨(R 220), (some 443), .plain, #[]⟩) (lf (⟨(T "getset_descriptor"), none, (.fields #[(S "__weakref__" 2370), (R 699), (B "ExceptionGroup.__weakref__"), N]), #[]⟩)) .nil)) (nd (o183 x) (nd (o264 x) (lf (⟨(R 220), (some 635), .plain, #[]⟩)) .nil) (nd (o446 x) (lf (o8 x)) .nil))))))) (nd (o9 x) (nd (o10 x) (nd (o3 x) (nd (o111 x) (nd (o112 x) (nd (o3 x) (nd (o3 x) (lf (o447 x)) (lf (⟨N, none, (.func (fn (st1 23) "_law_again" 0 N N N N none N N 0)), #[]⟩))) (nd (o309 x) (lf (⟨(R 220), (some 641), .plain, #[]⟩)) .nil)) (nd (o113 x) (nd (o236 x) (lf (o497 x)) .nil) (nd (⟨(R 220), (some 449), .plain, #[]⟩) (lf (o3 x)) .nil))) (nd (o114 x) (nd (o3 x) (t1224 x) (nd (o310 x) (lf (o572 x)) .nil)) (nd (o22 x) (nd (o237 x) (lf (o498 x)) .nil) (nd (o369 x) (lf (⟨N, none, (.func (fn (st1 17) "_law_adds" 0 N N N N none N N 0)), #[]⟩)) .nil)))) (nd (o3 x) (nd (o115 x) (t1651 x) (nd (o117 x) (t1432 x) (nd (o370 x) (lf (⟨N, none, (.func (fn (st1 13) "_law_heads" 0 N N N N none N N 0)), #[]⟩)) .nil))) (nd (o8 x) (nd (o118 x) (nd (o185 x) (lf (o450 x)) .nil) (nd (o371 x) (lf (⟨(T "tuple"), none, (.seq #[(T "Exception")] 0), #[]⟩)) .nil)) (nd (o8 x) (nd (⟨(R 220), (some 369), .plain, #[]⟩) (lf (o552 x)) .nil) (nd (o391 x) (lf (o624 x)) .nil))))) (nd (o119 x) (nd (o120 x) (nd (o3 x) (nd (o121 x) (nd (o186 x) (lf (o451 x)) (lf (o3 x))) (nd (o312 x) (lf (o553 x)) .nil)) (nd (o122 x) (nd (o239 x) (lf (⟨(R 220), (some 585), .plain, #[]⟩)) .nil) (nd (o372 x) (lf (⟨N, none, (.func (fn (st1 11) "_law_digits" 0 N N N N none N N 0)), #[]⟩)) .nil))) (nd (o3 x) (nd (o8 x) (nd (o8 x) (lf (⟨(R 220), (some 553), .plain, #[]⟩)) .nil) (nd (o313 x) (lf (⟨(T "code"), none, (.fields #[(S "lab0" 2339), (S "lab0" 2340), (S "/claim/cut.py" 2341), (I 616), (I 0), (I 0), (I 0), (I 0), (R 680), (.bool false), (I 181), (R 681), N, N, N, N, (I 2342), (I 616), (S "/claim/cut.py" 2343)]), #[]⟩)) .nil)) (nd (o3 x) (nd (o240 x) (lf (⟨(R 220), (some 617), .plain, #[]⟩)) .nil) (nd (o373 x) (lf (⟨N, none, (.func (fn (st1 19) "_law_marked" 0 N N N N none N N 0)), #[]⟩)) .nil)))) (nd (o8 x) (nd (o123 x) (t1666 x) (nd (o125 x) (nd (o241 x) (lf (⟨(R 220), (some 601), .plain, #[]⟩)) .nil) (nd (⟨(R 220), (some 473), .plain, #[]⟩) (lf (o3 x)) .nil))) (nd (o126 x) (nd (o3 x) (t1246 x) (nd (o375 x) (lf (o628 x)) .nil)) (nd (o188 x) (t1668 x) (nd (o455 x) (lf (o629 x)) .nil)))))) (nd (o12 x) (nd (o3 x) (nd (o127 x) (nd (o128 x) (nd (o3 x) (nd (o3 x) (lf (⟨(R 220), (some 517), .plain, #[]⟩)) (lf (o8 x))) (t1674 x)) (nd (o129 x) (nd (o243 x) (lf (⟨(R 220), (some 581), .plain, #[]⟩)) .nil) (nd (o376 x) (lf (o3 x)) .nil))) (nd (o3 x) (nd (o130 x) (nd (o189 x) (lf (o457 x)) .nil) (nd (o316 x) (lf (o22 x)) .nil)) (nd (o146 x) (nd (o244 x) (lf (o558 x)) .nil) (nd (⟨(R 220), (some 485), .plain, #[]⟩) (lf (o3 x)) .nil)))) (nd (o131 x) (nd (o8 x) (nd (o132 x) (t1260 x) (nd (o317 x) (lf (o559 x)) .nil)) (nd (o3 x) (nd (o245 x) (lf (o503 x)) .nil) (nd (o378 x) (lf (o630 x)) .nil))) (nd (o133 x) (nd (o134 x) (nd (o191 x) (lf (⟨(R 220), (some 565), .plain, #[]⟩)) .nil) (nd (⟨(R 220), (some 437), .plain, #[]⟩) (lf (o8 x)) .nil)) (nd (o192 x) (nd (o267 x) (lf (⟨(R 220), (some 629), .plain, #[]⟩)) .nil) (nd (o460 x) (lf (⟨(T "tuple"), none, (.seq #[(S "word" 2549), (S "ends" 2550), (S "end" 2551)] 0), #[]⟩)) .nil))))) (nd (o8 x) (nd (o3 x) (nd (o3 x) (nd (o8 x) (nd (o8 x) (lf (o461 x)) (lf (o632 x))) (nd (o318 x) (lf (⟨(R 220), (some 653), .plain, #[]⟩)) .nil)) (nd (o135 x) (t1456 x) (nd (⟨(R 220), (some 461), .plain, #[]⟩) (lf (o3 x)) .nil))) (nd (o136 x) (nd (o137 x) (t1272 x) (nd (o319 x) (lf (o633 x)) .nil)) (nd (o194 x) (t1692 x) (nd (o381 x) (lf (o8 x)) .nil)))) (nd (o138 x) (nd (o139 x) (t1697 x) (nd (o140 x) (t1460 x) (nd (o382 x) (lf (o3 x)) .nil))) (nd (o141 x) (nd (o3 x) (nd (o248 x) (lf (o464 x)) .nil) (nd (o383 x) (lf (⟨(T "builtin_function_or_method"), none, (.fields #[(B "object.__init_subclass__"), (R 699)]), #[]⟩)) .nil)) (nd (o195 x) (nd (o321 x) (lf (o564 x)) .nil) (nd (o465 x) (lf (o635 x)) .nil))))))))
def sEnd (w : World) (v d : Obj) (os : OsState) : SharedT := ⟨(t2089 ⟨w.params, v, d⟩), 783, {}, #[], {}, 2579, os⟩

def env1 : Env := { scope := PW.main.scope, locals := mainNs, globals := mainNs, cells := [], code := .ref 13, frame := some 14 }
def cenv : Env := { scope := clsScope (st1 6), locals := 227, globals := mainNs, cells := [], qual := "EsperantoStemmer.", func := none, code := .ref 230, frame := some 231, builtins := 0 }
abbrev cd0 : Code := .builtin "claim.caller" {}
abbrev cd1 : Code := .body (behindTheImports PW) env1
abbrev cd2 : Code := .body (clsOf (st1 6)) cenv
abbrev P0 : Pos := ⟨0, 0, 0, 0⟩
abbrev PF : Pos := ⟨204, 0, 615, 393⟩
abbrev stk1 : List Frame := [leafFrame (cd0, P0)]
abbrev stk2 : List Frame := [leafFrame (cd1, PF), leafFrame (cd0, P0)]
abbrev mkSet (es : Array (Int × Value)) (n : Nat) (t : SetTable) : Obj := ⟨.type "set", none, .set es n t, #[]⟩
noncomputable abbrev tRun (w : World) (n : Nat) (s : SharedT) (t : Thread) := PySem.W.Fast.tw10110043849684766642 PySem.W.Fast.tw14364793385576792824 PW w 11 (some (Value.ref 6)) 0 n s t
noncomputable abbrev tGo (w : World) (n : Nat) (s : SharedT) (t : Thread) := PySem.W.Fast.tw10295753902157049106 PySem.W.Fast.tw14364793385576792824 PW w 11 (some (Value.ref 6)) 0 n s t
noncomputable abbrev tDen (c : Code) := PySem.W.Fast.tw11892475500146522536 PySem.W.Fast.tw14364793385576792824 c
abbrev pairOf (r : Flow × SharedT × Code × Pos) : Flow × SharedT := (r.1, r.2.1)
end H
end
noncomputable section
open PySem PySem.W PySem.Calls PyProof.Rows
namespace H
set_option maxHeartbeats 0
theorem p_top (w : World) (es1 : Array (Int × Value)) (n1 : Nat) (t1 : SetTable) (es2 : Array (Int × Value)) (n2 : Nat) (t2 : SetTable) (os : OsState) (q : Pos) :
    (tRun w 1280 (sPre w (mkSet es1 n1 t1) (mkSet es2 n2 t2) os) ⟨fin1 (execs ((PW.main.body.drop 0).take 6) env1), cd1, q, stk1⟩).map pairOf = some (.next, sTop5 w (mkSet es1 n1 t1) (mkSet es2 n2 t2) os) := by kernel_rfl
theorem p_c1 (w : World) (es1 : Array (Int × Value)) (n1 : Nat) (t1 : SetTable) (es2 : Array (Int × Value)) (n2 : Nat) (t2 : SetTable) (os : OsState) (q : Pos) :
    (tRun w 21 (sC0 w (mkSet es1 n1 t1) (mkSet es2 n2 t2) os) ⟨fin1 (execs (((clsOf (st1 6)).drop 1).take 1) cenv), cd2, q, stk2⟩).map pairOf = some (.next, sC1 w (mkSet es1 n1 t1) (mkSet es2 n2 t2) os) := by kernel_rfl
theorem p_c3 (w : World) (es1 : Array (Int × Value)) (n1 : Nat) (t1 : SetTable) (es2 : Array (Int × Value)) (n2 : Nat) (t2 : SetTable) (os : OsState) (q : Pos) :
    (tRun w 368 (sC2 w (mkSet es1 n1 t1) (mkSet es2 n2 t2) os) ⟨fin1 (execs (((clsOf (st1 6)).drop 3).take 11) cenv), cd2, q, stk2⟩).map pairOf = some (.next, sC13 w (mkSet es1 n1 t1) (mkSet es2 n2 t2) os) := by kernel_rfl
theorem p_c14 (w : World) (es1 : Array (Int × Value)) (n1 : Nat) (t1 : SetTable) (es2 : Array (Int × Value)) (n2 : Nat) (t2 : SetTable) (os : OsState) (q : Pos) :
    (tRun w 2832 (sC13 w (mkSet es1 n1 t1) (mkSet es2 n2 t2) os) ⟨fin1 (execs (((clsOf (st1 6)).drop 14).take 1) cenv), cd2, q, stk2⟩).map pairOf = some (.next, sC14 w (mkSet es1 n1 t1) (mkSet es2 n2 t2) os) := by kernel_rfl
theorem p_c15 (w : World) (es1 : Array (Int × Value)) (n1 : Nat) (t1 : SetTable) (es2 : Array (Int × Value)) (n2 : Nat) (t2 : SetTable) (os : OsState) (q : Pos) :
    (tRun w 1062 (sC14 w (mkSet es1 n1 t1) (mkSet es2 n2 t2) os) ⟨fin1 (execs (((clsOf (st1 6)).drop 15).take 1) cenv), cd2, q, stk2⟩).map pairOf = some (.next, sC15 w (mkSet es1 n1 t1) (mkSet es2 n2 t2) os) := by kernel_rfl
theorem p_c16 (w : World) (es1 : Array (Int × Value)) (n1 : Nat) (t1 : SetTable) (es2 : Array (Int × Value)) (n2 : Nat) (t2 : SetTable) (os : OsState) (q : Pos) :
    (tRun w 2967 (sC15 w (mkSet es1 n1 t1) (mkSet es2 n2 t2) os) ⟨fin1 (execs (((clsOf (st1 6)).drop 16).take 1) cenv), cd2, q, stk2⟩).map pairOf = some (.next, sC16 w (mkSet es1 n1 t1) (mkSet es2 n2 t2) os) := by kernel_rfl
theorem p_c17 (w : World) (es1 : Array (Int × Value)) (n1 : Nat) (t1 : SetTable) (es2 : Array (Int × Value)) (n2 : Nat) (t2 : SetTable) (os : OsState) (q : Pos) :
    (tRun w 3502 (sC16 w (mkSet es1 n1 t1) (mkSet es2 n2 t2) os) ⟨fin1 (execs (((clsOf (st1 6)).drop 17).take 1) cenv), cd2, q, stk2⟩).map pairOf = some (.next, sC17 w (mkSet es1 n1 t1) (mkSet es2 n2 t2) os) := by kernel_rfl
theorem p_c18 (w : World) (es1 : Array (Int × Value)) (n1 : Nat) (t1 : SetTable) (es2 : Array (Int × Value)) (n2 : Nat) (t2 : SetTable) (os : OsState) (q : Pos) :
    (tRun w 372 (sC17 w (mkSet es1 n1 t1) (mkSet es2 n2 t2) os) ⟨fin1 (execs (((clsOf (st1 6)).drop 18).take 1) cenv), cd2, q, stk2⟩).map pairOf = some (.next, sC18 w (mkSet es1 n1 t1) (mkSet es2 n2 t2) os) := by kernel_rfl
theorem p_c19 (w : World) (es1 : Array (Int × Value)) (n1 : Nat) (t1 : SetTable) (es2 : Array (Int × Value)) (n2 : Nat) (t2 : SetTable) (os : OsState) (q : Pos) :
    (tRun w 4212 (sC18 w (mkSet es1 n1 t1) (mkSet es2 n2 t2) os) ⟨fin1 (execs (((clsOf (st1 6)).drop 19).take 1) cenv), cd2, q, stk2⟩).map pairOf = some (.next, sC19 w (mkSet es1 n1 t1) (mkSet es2 n2 t2) os) := by kernel_rfl
theorem p_c20 (w : World) (es1 : Array (Int × Value)) (n1 : Nat) (t1 : SetTable) (es2 : Array (Int × Value)) (n2 : Nat) (t2 : SetTable) (os : OsState) (q : Pos) :
    (tRun w 2129 (sC19 w (mkSet es1 n1 t1) (mkSet es2 n2 t2) os) ⟨fin1 (execs (((clsOf (st1 6)).drop 20).take 3) cenv), cd2, q, stk2⟩).map pairOf = some (.next, sC22 w (mkSet es1 n1 t1) (mkSet es2 n2 t2) os) := by kernel_rfl
theorem p_c23 (w : World) (es1 : Array (Int × Value)) (n1 : Nat) (t1 : SetTable) (es2 : Array (Int × Value)) (n2 : Nat) (t2 : SetTable) (os : OsState) (q : Pos) :
    (tRun w 3292 (sC22 w (mkSet es1 n1 t1) (mkSet es2 n2 t2) os) ⟨fin1 (execs (((clsOf (st1 6)).drop 23).take 1) cenv), cd2, q, stk2⟩).map pairOf = some (.next, sC23 w (mkSet es1 n1 t1) (mkSet es2 n2 t2) os) := by kernel_rfl
theorem p_end (w : World) (es1 : Array (Int × Value)) (n1 : Nat) (t1 : SetTable) (es2 : Array (Int × Value)) (n2 : Nat) (t2 : SetTable) (os : OsState) (q : Pos) :
    (tRun w 904 (sTop6 w (mkSet es1 n1 t1) (mkSet es2 n2 t2) os) ⟨fin1 (execs ((PW.main.body.drop 7).take 19) env1), cd1, q, stk1⟩).map pairOf = some (.next, sEnd w (mkSet es1 n1 t1) (mkSet es2 n2 t2) os) := by kernel_rfl

theorem p_v (w : World) (es1 : Array (Int × Value)) (n1 : Nat) (t1 : SetTable) (d : Obj) (os : OsState) (q : Pos) :
    (tRun w 30 (sV w (mkSet es1 n1 t1) d os) ⟨fin1 (do bindName cenv "g_vowel" (.ref 232); pure .next), cd2, q, stk2⟩).map pairOf = some (.next, sC0 w (mkSet es1 n1 t1) d os) := by kernel_rfl
theorem p_d (w : World) (es1 : Array (Int × Value)) (n1 : Nat) (t1 : SetTable) (es2 : Array (Int × Value)) (n2 : Nat) (t2 : SetTable) (os : OsState) (q : Pos) :
    (tRun w 30 (sD w (mkSet es1 n1 t1) (mkSet es2 n2 t2) os) ⟨fin1 (do bindName cenv "g_digit" (.ref 233); pure .next), cd2, q, stk2⟩).map pairOf = some (.next, sC2 w (mkSet es1 n1 t1) (mkSet es2 n2 t2) os) := by kernel_rfl

noncomputable def aRun (w : World) (os : OsState) (q : Pos) : Option (SharedT × Thread) := tGo w 64 (sTop5 w default default os) ⟨fin1 (execs ((PW.main.body.drop 6).take 1) env1), cd1, q, stk1⟩
noncomputable def kOf (x : Option (SharedT × Thread)) : Result → Sem Fin := match x with
  | some (_, ⟨_, _, _, .ret k _ _ _ _ _ _ :: _⟩) => k
  | _ => fun _ => .unsupported "no frame"
noncomputable def kF (w : World) (os : OsState) (q : Pos) : Result → Sem Fin := kOf (aRun w os q)
theorem p_A (w : World) (v d : Obj) (os : OsState) (q : Pos) :
    tGo w 64 (sTop5 w v d os) ⟨fin1 (execs ((PW.main.body.drop 6).take 1) env1), cd1, q, stk1⟩ = some (sA w v d os, ⟨tDen cd2, cd2, PF, .ret (kF w os q) none false [R 199, R 225, R 225, R 227, R 231] cd1 PF [] :: stk1⟩) := by kernel_rfl
theorem p_C (w : World) (es1 : Array (Int × Value)) (n1 : Nat) (t1 : SetTable) (es2 : Array (Int × Value)) (n2 : Nat) (t2 : SetTable) (os : OsState) (q : Pos) :
    (tRun w 185 (sC23 w (mkSet es1 n1 t1) (mkSet es2 n2 t2) os) ⟨kF w os q (.ok .next), cd1, PF, stk1⟩).map pairOf = some (.next, sTop6 w (mkSet es1 n1 t1) (mkSet es2 n2 t2) os) := by kernel_rfl

noncomputable def kT (w : World) (os : OsState) : Result → Sem Fin := kOf (tGo w 12 (sBoot w default default os) (topStub PW))
theorem p_pre (w : World) (v d : Obj) (os : OsState) :
    tGo w 12 (sBoot w v d os) (topStub PW) = some (sPre w v d os, ⟨tDen cd1, cd1, P0, .ret (kT w os) none false [] cd0 P0 [] :: []⟩) := by kernel_rfl
theorem p_fin (w : World) (v d : Obj) (os : OsState) (s : SharedT) :
    (tRun w 15 s ⟨kT w os (.ok .next), cd0, P0, []⟩).map pairOf = some (.ret .none, s) := by kernel_rfl
theorem p_boot (w : World) (v d : Obj) (os : OsState) : (sBoot w v d os).abs = ⟨boot_heap w.params, Array.mk [], boot_drawn, boot_toks, os⟩ := by kernel_rfl
end H
end
noncomputable section
open PySem PySem.W PySem.Calls PyProof.Rows
namespace H

theorem toT : @segRunT = PySem.W.Fast.tw10110043849684766642 := PySem.W.Fast.te10110043849684766642
theorem goT : @segGoT = PySem.W.Fast.tw10295753902157049106 := PySem.W.Fast.te10295753902157049106
theorem denT : @denote = PySem.W.Fast.tw11892475500146522536 := PySem.W.Fast.te11892475500146522536
theorem tabT : table = PySem.W.Fast.tw14364793385576792824 := table_eq_tree.trans PySem.W.Fast.te14364793385576792824

theorem run_of {w : World} {n : Nat} {s : SharedT} {t : Thread} : tRun w n s t = segRunT table PW w 11 (some (Value.ref 6)) 0 n s t := by
  rw [toT, tabT]
theorem go_of {w : World} {n : Nat} {s : SharedT} {t : Thread} : tGo w n s t = segGoT table PW w 11 (some (Value.ref 6)) 0 n s t := by
  rw [goT, tabT]
theorem den_of {c : Code} : tDen c = denote table c := by rw [denT, tabT]

noncomputable abbrev M (w : World) : Model := model PW w
noncomputable abbrev G1 : Ctx := (Ctx.of cd1 []).over stk1
noncomputable abbrev G2 : Ctx := (Ctx.of cd2 []).over stk2

theorem piece_top {w : World} {n : Nat} {S S' : SharedT} {t : Sem Flow} {q : Pos} {f : Flow} (hg : S'.gens = #[]) (h : (tRun w n S ⟨fin1 t, cd1, q, stk1⟩).map pairOf = some (f, S')) :
    Sem.wp (M w) G1 t (fun g _ s₂ => g = f ∧ s₂ = S'.abs) (fun _ _ _ => False) q S.abs := by
  rw [run_of] at h
  exact piece1 hg h
theorem piece_cls {w : World} {n : Nat} {S S' : SharedT} {t : Sem Flow} {q : Pos} {f : Flow} (hg : S'.gens = #[]) (h : (tRun w n S ⟨fin1 t, cd2, q, stk2⟩).map pairOf = some (f, S')) :
    Sem.wp (M w) G2 t (fun g _ s₂ => g = f ∧ s₂ = S'.abs) (fun _ _ _ => False) q S.abs := by
  rw [run_of] at h
  exact piece2 hg h

theorem body_runs {M : Model} {Γ : Ctx} {b : List Stmt} {env : Env} {q : Pos} {s S' : Shared} (hm : M.den = denote table) (hb : blockStart b env = pure ()) (h : Sem.wp M Γ (execs b env) (fun f _ s' => f = .next ∧ s' = S') (fun _ _ _ => False) q s) :
    Runs M Γ q (denote table (.body b env)) [] s (.ret (.ok .next)) S' := by
  have z : Sem.wp M Γ (denote table (.body b env)) (Sem.finPost M Γ fun r s' => r = .ok .next ∧ s' = S') (fun e _ s' => Except.error e = (.ok .next : Result) ∧ s' = S') q s := by
    show Sem.wp M Γ (do blockStart b env; return Fin.done (← (execs b env).onRaise («leaving» env))) _ _ q s
    rw [hb, Sem.wp_bind', Sem.wp_pure', Sem.wp_bind', Sem.wp_onRaise]
    refine Sem.wp_mono M Γ _ (fun f q' s₂ h2 => ?_) (fun _ _ _ h2 => h2.elim) _ _ h
    obtain ⟨rfl, rfl⟩ := h2
    rw [Sem.wp_pure']
    exact ⟨rfl, rfl⟩
  obtain ⟨r, s', hr, rfl, rfl⟩ := (Sem.wp_iff_runs M Γ _ _ q s).mp z
  exact hr

noncomputable def vowelSigns : List (Str × Pos) := [(Str.ofString "a", ⟨205, 15, 205, 18⟩), (Str.ofString "e", ⟨205, 20, 205, 23⟩), (Str.ofString "i", ⟨205, 25, 205, 28⟩), (Str.ofString "o", ⟨205, 30, 205, 33⟩), (Str.ofString "u", ⟨205, 35, 205, 38⟩)]
noncomputable def digitSigns : List (Str × Pos) := [(Str.ofString "0", ⟨207, 15, 207, 18⟩), (Str.ofString "1", ⟨207, 20, 207, 23⟩), (Str.ofString "2", ⟨207, 25, 207, 28⟩), (Str.ofString "3", ⟨207, 30, 207, 33⟩), (Str.ofString "4", ⟨207, 35, 207, 38⟩),
  (Str.ofString "5", ⟨207, 40, 207, 43⟩), (Str.ofString "6", ⟨207, 45, 207, 48⟩), (Str.ofString "7", ⟨207, 50, 207, 53⟩), (Str.ofString "8", ⟨207, 55, 207, 58⟩), (Str.ofString "9", ⟨207, 60, 207, 63⟩)]

theorem st_v : (clsOf (st1 6)).take 1 = [.Assign [.Name (Str.ofString "g_vowel") ⟨205, 4, 205, 11⟩] (.Set (strConsts vowelSigns) 0 ⟨205, 14, 205, 39⟩) ⟨205, 4, 205, 39⟩] := by kernel_rfl
theorem st_d : ((clsOf (st1 6)).drop 2).take 1 = [.Assign [.Name (Str.ofString "g_digit") ⟨207, 4, 207, 11⟩] (.Set (strConsts digitSigns) 0 ⟨207, 14, 207, 64⟩) ⟨207, 4, 207, 64⟩] := by kernel_rfl

theorem ins_get {T : BT} {n : Nat} {so : Obj} (h : ((T.ins n so).get n).isSome = true) : (∀ b, b < n → (T.ins n so).get b = T.get b) ∧ (T.ins n so).get n = some so :=
  ⟨fun b hb => by rw [BT.get_ins so T n h, if_neg (by omega)], by rw [BT.get_ins so T n h, if_pos rfl]⟩

def IsSet (w : World) (ss : List (Str × Pos)) (so : Obj) : Prop := so.SetObjOf (strKind PW w) (fun k => ss.any fun x => decide (k = x.1)) ss.length
theorem IsSet.shape {w : World} {ss : List (Str × Pos)} {so : Obj} (h : IsSet w ss so) : ∃ es n t, so = mkSet es n t := by
  obtain ⟨⟨h1, h2, h3⟩, es, ep, t, h4, _⟩ := h
  obtain ⟨c, d, dt, sl⟩ := so
  simp only at h1 h2 h3 h4
  subst h1 h2 h3 h4
  exact ⟨es, ep, t, rfl⟩

set_option tactic.hygienic true in
theorem set_stmt {w : World} {ss : List (Str × Pos)} {x : Str} {p1 p2 p3 : Pos} {n tk : Nat} {os : OsState} {q : Pos} {T : BT} {R : Obj → Flow → Shared → Prop}
    (hlive : allLive T n = true) (hc : kdsCode [(230, (T.get 230).getD default)] cenv.code = true) (h230 : 230 < n) (hnd : (ss.map (·.1)).Nodup) (hlen : ss.length ≤ 30)
    (hsome : ∀ so, ((T.ins n so).get n).isSome = true) (hG : G2.In (headA 100 700))
    (hname : ∀ so, IsSet w ss so → ∀ q', Sem.wp (M w) G2 (do bindName cenv x (.ref n); pure .next) (fun f _ s' => R so f s') (fun _ _ _ => False) q' (SharedT.mk (T.ins n so) (n + 1) {} #[] {} (tk + ss.length + ss.length) os).abs) :
    Sem.wp (M w) G2 (execs [.Assign [.Name x p1] (.Set (strConsts ss) 0 p2) p3] cenv) (fun f _ s' => ∃ so, IsSet w ss so ∧ R so f s') (fun _ _ _ => False) q (SharedT.mk T n {} #[] {} tk os).abs := by
  have hex : exec (.Assign [.Name x p1] (.Set (strConsts ss) 0 p2) p3) cenv = (do standAt p3; let v ← eval (.Set (strConsts ss) 0 p2) cenv; standAt p1; bindName cenv x v; pure .next) :=
    exec_Assign_Name _ _ _ _ _ rfl
  rw [execs_cons, hex]
  simp only [Sem.wp_bind', Sem.wp_cmd_standAt]
  have hset : wpAny (model PW w) (headA 100 700) (eval (.Set (strConsts ss) 0 p2) cenv)
      (fun v s' => v = .ref n ∧ ∃ h' so led, Heap.SameBut n ((absHeap T n {}).push (setNil led)) h' ∧ h'.get? n = some so ∧ IsSet w ss so ∧ s' = { (SharedT.mk T n {} #[] {} tk os).abs with heap := h', toks := tk + ss.length + ss.length }) (fun _ _ => False) (SharedT.mk T n {} #[] {} tk os).abs := by
    refine set_disp (K := [(230, (T.get 230).getD default)]) ss rfl ?_ hc hnd hlen fun h' so led h1 h2 h3 => ?_
    · intro a o e
      obtain ⟨y, e1, e2⟩ := live_get (life := {}) hlive h230
      rw [List.lookup] at e
      split at e
      · rename_i hq
        rw [beq_iff_eq.mp hq]
        rw [e1] at e
        cases e
        exact e2
      · cases e
    · have e : (SharedT.mk T n {} #[] {} tk os).abs.heap.objs.size = n := absHeap_size T n {}
      rw [e] at h1 h2 ⊢
      exact ⟨rfl, h', so, led, h1, h2, h3, rfl⟩
  refine Sem.wp_mono _ _ _ (fun v q' s₂ h2 => ?_) (fun _ _ _ h2 => h2.elim) _ _ (wp_life (hset G2 _ hG))
  obtain ⟨⟨rfl, h', so, led, h3, h4, h5, rfl⟩, h6⟩ := h2
  have hh : h' = absHeap (T.ins n so) (n + 1) {} := set_state hlive (ins_get (hsome so)).1 (ins_get (hsome so)).2 rfl h3 h4 h6
  subst hh
  have z := hname so h5 p1
  rw [Sem.wp_bind'] at z
  simp only [Sem.wp_pure'] at z ⊢
  refine Sem.wp_mono _ _ _ (fun _ q2 s3 h7 => ?_) (fun _ _ _ h7 => h7) _ _ z
  exact ⟨so, h5, h7⟩

theorem in_G2 : G2.In (headA 100 700) := in_headA rfl (by decide +kernel) (by decide +kernel)

theorem nodup_v : (vowelSigns.map (·.1)).Nodup := by decide +kernel
theorem nodup_d : (digitSigns.map (·.1)).Nodup := by decide +kernel
theorem some_232 (w : World) (v d : Obj) (os : OsState) (so : Obj) : (((sA w v d os).tree.ins 232 so).get 232).isSome = true := by kernel_rfl
theorem some_233 (w : World) (es1 : Array (Int × Value)) (n1 : Nat) (t1 : SetTable) (d : Obj) (os : OsState) (so : Obj) : (((sC1 w (mkSet es1 n1 t1) d os).tree.ins 233 so).get 233).isSome = true := by kernel_rfl
theorem live_232 (w : World) (v d : Obj) (os : OsState) : allLive (sA w v d os).tree 232 = true := by kernel_rfl
theorem live_233 (w : World) (es1 : Array (Int × Value)) (n1 : Nat) (t1 : SetTable) (d : Obj) (os : OsState) : allLive (sC1 w (mkSet es1 n1 t1) d os).tree 233 = true := by kernel_rfl
theorem code_232 (w : World) (v d : Obj) (os : OsState) : kdsCode [(230, ((sA w v d os).tree.get 230).getD default)] cenv.code = true := by kernel_rfl
theorem code_233 (w : World) (es1 : Array (Int × Value)) (n1 : Nat) (t1 : SetTable) (d : Obj) (os : OsState) : kdsCode [(230, ((sC1 w (mkSet es1 n1 t1) d os).tree.get 230).getD default)] cenv.code = true := by kernel_rfl
theorem at_v (w : World) (v d : Obj) (os : OsState) (es1 : Array (Int × Value)) (n1 : Nat) (t1 : SetTable) : SharedT.mk ((sA w v d os).tree.ins 232 (mkSet es1 n1 t1)) 233 {} #[] {} 497 os = sV w (mkSet es1 n1 t1) d os := by kernel_rfl
theorem at_d (w : World) (d : Obj) (os : OsState) (es1 : Array (Int × Value)) (n1 : Nat) (t1 : SetTable) (es2 : Array (Int × Value)) (n2 : Nat) (t2 : SetTable) :
    SharedT.mk ((sC1 w (mkSet es1 n1 t1) d os).tree.ins 233 (mkSet es2 n2 t2)) 234 {} #[] {} 520 os = sD w (mkSet es1 n1 t1) (mkSet es2 n2 t2) os := by kernel_rfl
theorem sA_is (w : World) (v d : Obj) (os : OsState) : sA w v d os = SharedT.mk (sA w v d os).tree 232 {} #[] {} 487 os := rfl
theorem sC1_is (w : World) (v d : Obj) (os : OsState) : sC1 w v d os = SharedT.mk (sC1 w v d os).tree 233 {} #[] {} 500 os := rfl

theorem cls_v {w : World} {v d : Obj} {os : OsState} {q : Pos} : Sem.wp (M w) G2 (execs ((clsOf (st1 6)).take 1) cenv)
    (fun f _ s' => ∃ so, IsSet w vowelSigns so ∧ f = .next ∧ s' = (sC0 w so d os).abs) (fun _ _ _ => False) q (sA w v d os).abs := by
  rw [st_v, sA_is]
  refine set_stmt (R := fun so f s' => f = .next ∧ s' = (sC0 w so d os).abs) (live_232 w v d os) (code_232 w v d os) (by decide) nodup_v (by decide) (some_232 w v d os) in_G2 fun so hso q' => ?_
  obtain ⟨es, n, t, rfl⟩ := hso.shape
  show Sem.wp (M w) G2 (do bindName cenv "g_vowel" (.ref 232); pure Flow.next) _ _ q' (SharedT.mk ((sA w v d os).tree.ins 232 (mkSet es n t)) 233 {} #[] {} 497 os).abs
  rw [at_v]
  exact piece_cls rfl (p_v w es n t d os q')
theorem cls_d {w : World} {es1 : Array (Int × Value)} {n1 : Nat} {t1 : SetTable} {d : Obj} {os : OsState} {q : Pos} : Sem.wp (M w) G2 (execs (((clsOf (st1 6)).drop 2).take 1) cenv)
    (fun f _ s' => ∃ so, IsSet w digitSigns so ∧ f = .next ∧ s' = (sC2 w (mkSet es1 n1 t1) so os).abs) (fun _ _ _ => False) q (sC1 w (mkSet es1 n1 t1) d os).abs := by
  rw [st_d, sC1_is]
  refine set_stmt (R := fun so f s' => f = .next ∧ s' = (sC2 w (mkSet es1 n1 t1) so os).abs) (live_233 w es1 n1 t1 d os) (code_233 w es1 n1 t1 d os) (by decide) nodup_d (by decide) (some_233 w es1 n1 t1 d os) in_G2 fun so hso q' => ?_
  obtain ⟨es, n, t, rfl⟩ := hso.shape
  show Sem.wp (M w) G2 (do bindName cenv "g_digit" (.ref 233); pure Flow.next) _ _ q' (SharedT.mk ((sC1 w (mkSet es1 n1 t1) d os).tree.ins 233 (mkSet es n t)) 234 {} #[] {} 520 os).abs
  rw [at_d]
  exact piece_cls rfl (p_d w es1 n1 t1 es n t os q')
end H
end
noncomputable section
open PySem PySem.W PySem.Calls PyProof.Rows
namespace H
theorem runs_kept {M : Model} {Γ : Ctx} {q : Pos} {t : Sem Fin} {k : Result → Sem Fin} {h : Option Value} {g : Bool} {l : List Value} {c₁ : Code} {p₁ : Pos} {kp kp' : List Value} {s s' : Shared} {r : Result}
    (x : Runs M Γ q t [.ret k h g l c₁ p₁ kp] s (.ret r) s') : Runs M Γ q t [.ret k h g l c₁ p₁ kp'] s (.ret r) s' := by
  obtain ⟨r₁, s₁, a, b⟩ := runs_ret_inv x
  exact .segRet a b
theorem one_leaf {fs : List Frame} {k : Result → Sem Fin} {l : List Value} {c : Code} {p : Pos} (h : forgetAll fs = forgetAll [.ret k none false l c p []]) : ∃ kp, fs = [.ret k none false l c p kp] := by
  cases fs with
  | nil => cases h
  | cons F r =>
    rw [forgetAll_cons, forgetAll_cons, List.cons.injEq] at h
    obtain ⟨h1, h2⟩ := h
    cases r with
    | cons => cases h2
    | nil =>
      cases F with
      | gen => cases h1
      | ret k' h' g' l' c' q' kp =>
        simp only [Frame.forget, Frame.ret.injEq] at h1
        obtain ⟨rfl, rfl, rfl, rfl, rfl, rfl, _⟩ := h1
        exact ⟨kp, rfl⟩

theorem wrap1 {p : Program} {w : World} {n₀ : Nat} {ann : Option Value} {b nA nC : Nat} {S SA SB SC : SharedT} {t : Sem Flow} {c cA cF : Code} {q qA qF : Pos} {x : Code × Pos} {k : Result → Sem Fin} {lv : List Value}
    (hgA : SA.gens = #[]) (hgC : SC.gens = #[])
    (hA : segGoT table p w n₀ ann b nA S ⟨fin1 t, c, q, [leafFrame x]⟩ = some (SA, ⟨denote table cA, cA, qA, .ret k none false lv cF qF [] :: [leafFrame x]⟩))
    (hb : ∀ kp kp2, Runs (model p w) ((Ctx.of cA []).over (.ret k none false lv cF qF kp :: [.ret leafOf none false [] x.1 x.2 kp2])) qA (denote table cA) [] SA.abs (.ret (.ok .next)) SB.abs)
    (hC : (segRunT table p w n₀ ann 0 nC SB ⟨k (.ok .next), cF, qF, [leafFrame x]⟩).map (fun r => (r.1, r.2.1)) = some (.next, SC)) :
    Sem.wp (model p w) ((Ctx.of c []).over [leafFrame x]) t (fun g _ s₂ => g = .next ∧ s₂ = SC.abs) (fun _ _ _ => False) q S.abs := by
  have hA' := segGo_of hA
  obtain ⟨⟨f', S2, c', q'⟩, h1, h2⟩ := Option.map_eq_some_iff.mp hC
  simp only [Prod.mk.injEq] at h2
  obtain ⟨rfl, rfl⟩ := h2
  have rC := runs_of_seg (S' := S2.abs) hgC (segRun_of h1)
  have big : Runs (model p w) (Ctx.of c []) q (fin1 t) [leafFrame x] S.abs (.ret (.ok .next)) S2.abs := by
    refine runs_through (SB := SB.abs) (rB := .ok .next) hgA hA' fun fs' hfs kp => ?_
    obtain ⟨kp2, rfl⟩ := one_leaf hfs
    exact .segRet (r := .ok .next) (hb kp kp2) (runs_kept rC)
  obtain ⟨r₁, s₁, a, b⟩ := runs_ret_inv big
  obtain ⟨e1, e2⟩ := runs_leaf_inv b
  subst e1 e2
  exact wp_of_runs a

theorem wrap0 {p : Program} {w : World} {n₀ : Nat} {ann : Option Value} {b nA nC : Nat} {S SA SB SC : SharedT} {t : Sem Fin} {c cA cF : Code} {q qA qF : Pos} {k : Result → Sem Fin} {lv : List Value} {f : Flow}
    (hgA : SA.gens = #[]) (hgC : SC.gens = #[])
    (hA : segGoT table p w n₀ ann b nA S ⟨t, c, q, []⟩ = some (SA, ⟨denote table cA, cA, qA, .ret k none false lv cF qF [] :: []⟩))
    (hb : ∀ kp, Runs (model p w) ((Ctx.of cA []).over (.ret k none false lv cF qF kp :: [])) qA (denote table cA) [] SA.abs (.ret (.ok .next)) SB.abs)
    (hC : (segRunT table p w n₀ ann 0 nC SB ⟨k (.ok .next), cF, qF, []⟩).map (fun r => (r.1, r.2.1)) = some (f, SC)) :
    Runs (model p w) (Ctx.of c []) q t [] S.abs (.ret (.ok f)) SC.abs := by
  have hA' := segGo_of hA
  obtain ⟨⟨f', S2, c', q'⟩, h1, h2⟩ := Option.map_eq_some_iff.mp hC
  simp only [Prod.mk.injEq] at h2
  obtain ⟨rfl, rfl⟩ := h2
  have rC := runs_of_seg (S' := S2.abs) hgC (segRun_of h1)
  refine runs_through (SB := SB.abs) (rB := .ok .next) hgA hA' fun fs' hfs kp => ?_
  obtain rfl : fs' = [] := by cases fs' with | nil => rfl | cons => cases hfs
  exact .segRet (r := .ok .next) (hb kp) rC
end H
end
noncomputable section
open PySem PySem.W PySem.Calls PyProof.Rows
namespace H

theorem cls_split : clsOf (st1 6) = (clsOf (st1 6)).take 1 ++ (((clsOf (st1 6)).drop 1).take 1 ++ (((clsOf (st1 6)).drop 2).take 1 ++ (((clsOf (st1 6)).drop 3).take 11 ++
  (((clsOf (st1 6)).drop 14).take 1 ++ (((clsOf (st1 6)).drop 15).take 1 ++ (((clsOf (st1 6)).drop 16).take 1 ++ (((clsOf (st1 6)).drop 17).take 1 ++ (((clsOf (st1 6)).drop 18).take 1 ++
  (((clsOf (st1 6)).drop 19).take 1 ++ (((clsOf (st1 6)).drop 20).take 3 ++ (((clsOf (st1 6)).drop 23).take 1 ++ []))))))))))) := by kernel_rfl
theorem top_split : PW.main.body = (PW.main.body.drop 0).take 6 ++ ((PW.main.body.drop 6).take 1 ++ ((PW.main.body.drop 7).take 19 ++ [])) := by kernel_rfl
theorem behind_is : behindTheImports PW = PW.main.body := by kernel_rfl

theorem wp_or {M : Model} {Γ : Ctx} {l1 l2 : List Stmt} {env : Env} {Q : Flow → Pos → Shared → Prop} {E : Value → Pos → Shared → Prop} {q : Pos} {s : Shared} {P : Obj → Prop} {S : Obj → Shared}
    (h : Sem.wp M Γ (execs l1 env) (fun f _ s' => ∃ so, P so ∧ f = .next ∧ s' = S so) (fun _ _ _ => False) q s) (k : ∀ so, P so → ∀ q', Sem.wp M Γ (execs l2 env) Q E q' (S so)) : Sem.wp M Γ (execs (l1 ++ l2) env) Q E q s :=
  wp_execs_append l1 l2 (Sem.wp_mono M Γ _ (fun f q' s' h2 => by obtain ⟨so, h3, rfl, rfl⟩ := h2; exact k so h3 q') (fun _ _ _ h2 => h2.elim) _ _ h)

def Sets (w : World) (v d : Obj) : Prop := IsSet w vowelSigns v ∧ IsSet w digitSigns d

theorem cls_body {w : World} {v0 d0 : Obj} {os : OsState} {q : Pos} :
    Sem.wp (M w) G2 (execs (clsOf (st1 6)) cenv) (fun f _ s' => f = .next ∧ ∃ v d, Sets w v d ∧ s' = (sC23 w v d os).abs) (fun _ _ _ => False) q (sA w v0 d0 os).abs := by
  rw [cls_split]
  refine wp_or cls_v fun v hv q => ?_
  obtain ⟨es1, n1, t1, rfl⟩ := hv.shape
  refine wp_next (S := (sC1 w (mkSet es1 n1 t1) (mkSet #[] 0 default) os).abs) (piece_cls rfl (p_c1 w es1 n1 t1 #[] 0 default os q)) fun q => ?_
  refine wp_or cls_d fun d hd q => ?_
  obtain ⟨es2, n2, t2, rfl⟩ := hd.shape
  refine wp_next (piece_cls rfl (p_c3 w es1 n1 t1 es2 n2 t2 os q)) fun q => ?_
  refine wp_next (piece_cls rfl (p_c14 w es1 n1 t1 es2 n2 t2 os q)) fun q => ?_
  refine wp_next (piece_cls rfl (p_c15 w es1 n1 t1 es2 n2 t2 os q)) fun q => ?_
  refine wp_next (piece_cls rfl (p_c16 w es1 n1 t1 es2 n2 t2 os q)) fun q => ?_
  refine wp_next (piece_cls rfl (p_c17 w es1 n1 t1 es2 n2 t2 os q)) fun q => ?_
  refine wp_next (piece_cls rfl (p_c18 w es1 n1 t1 es2 n2 t2 os q)) fun q => ?_
  refine wp_next (piece_cls rfl (p_c19 w es1 n1 t1 es2 n2 t2 os q)) fun q => ?_
  refine wp_next (piece_cls rfl (p_c20 w es1 n1 t1 es2 n2 t2 os q)) fun q => ?_
  refine wp_next (piece_cls rfl (p_c23 w es1 n1 t1 es2 n2 t2 os q)) fun q => ?_
  exact (Sem.wp_pure' ..).mpr ⟨rfl, _, _, ⟨hv, hd⟩, rfl⟩

theorem block_cls : blockStart (clsOf (st1 6)) cenv = pure () := by kernel_rfl
theorem block_top : blockStart (behindTheImports PW) env1 = pure () := by kernel_rfl

theorem cls_runs (w : World) (v0 d0 : Obj) (os : OsState) : ∃ v d, Sets w v d ∧ ∀ (k : Result → Sem Fin) (lv kp kp2 : List Value),
    Runs (M w) ((Ctx.of cd2 []).over (.ret k none false lv cd1 PF kp :: [.ret leafOf none false [] cd0 P0 kp2])) PF (denote table cd2) [] (sA w v0 d0 os).abs (.ret (.ok .next)) (sC23 w v d os).abs := by
  obtain ⟨f, sB, hB, rfl, v, d, hS, rfl⟩ := runs_of_wp (cls_body (w := w) (v0 := v0) (d0 := d0) (os := os) (q := PF))
  have hb := body_runs (M := M w) (Γ := G2) (b := clsOf (st1 6)) (env := cenv) (q := PF) rfl block_cls (wp_of_runs hB)
  exact ⟨v, d, hS, fun _ _ _ _ => hb⟩

theorem p_A' (w : World) (v d : Obj) (os : OsState) (q : Pos) : segGoT table PW w 11 (some (Value.ref 6)) 0 64 (sTop5 w v d os) ⟨fin1 (execs ((PW.main.body.drop 6).take 1) env1), cd1, q, [leafFrame (cd0, P0)]⟩ =
    some (sA w v d os, ⟨denote table cd2, cd2, PF, .ret (kF w os q) none false [R 199, R 225, R 225, R 227, R 231] cd1 PF [] :: [leafFrame (cd0, P0)]⟩) := by
  have h := p_A w v d os q
  rw [go_of, den_of] at h
  exact h
theorem p_C' (w : World) (es1 : Array (Int × Value)) (n1 : Nat) (t1 : SetTable) (es2 : Array (Int × Value)) (n2 : Nat) (t2 : SetTable) (os : OsState) (q : Pos) :
    (segRunT table PW w 11 (some (Value.ref 6)) 0 185 (sC23 w (mkSet es1 n1 t1) (mkSet es2 n2 t2) os) ⟨kF w os q (.ok .next), cd1, PF, [leafFrame (cd0, P0)]⟩).map (fun r => (r.1, r.2.1)) = some (.next, sTop6 w (mkSet es1 n1 t1) (mkSet es2 n2 t2) os) := by
  have h := p_C w es1 n1 t1 es2 n2 t2 os q
  rw [run_of] at h
  exact h

theorem cls_stmt {w : World} {v0 d0 : Obj} {os : OsState} {q : Pos} :
    Sem.wp (M w) G1 (execs ((PW.main.body.drop 6).take 1) env1) (fun f _ s' => f = .next ∧ ∃ v d, Sets w v d ∧ s' = (sTop6 w v d os).abs) (fun _ _ _ => False) q (sTop5 w v0 d0 os).abs := by
  obtain ⟨v, d, hS, all⟩ := cls_runs w v0 d0 os
  have hS' := hS
  obtain ⟨es1, n1, t1, e1⟩ := hS.1.shape
  obtain ⟨es2, n2, t2, e2⟩ := hS.2.shape
  subst e1 e2
  have W := wrap1 (x := (cd0, P0)) (S := sTop5 w v0 d0 os) (SB := sC23 w (mkSet es1 n1 t1) (mkSet es2 n2 t2) os) rfl rfl (p_A' w v0 d0 os q) (all _ _) (p_C' w es1 n1 t1 es2 n2 t2 os q)
  refine Sem.wp_mono _ _ _ (fun f q2 s3 h7 => ?_) (fun _ _ _ h7 => h7) _ _ W
  exact ⟨h7.1, _, _, hS', h7.2⟩

theorem top_body {w : World} {v0 d0 : Obj} {os : OsState} {q : Pos} :
    Sem.wp (M w) G1 (execs (behindTheImports PW) env1) (fun f _ s' => f = .next ∧ ∃ v d, Sets w v d ∧ s' = (sEnd w v d os).abs) (fun _ _ _ => False) q (sPre w v0 d0 os).abs := by
  rw [behind_is, top_split]
  refine wp_next (S := (sTop5 w (mkSet #[] 0 default) (mkSet #[] 0 default) os).abs) (piece_top rfl (p_top w #[] 0 default #[] 0 default os q)) fun q => ?_
  refine wp_execs_append _ _ (Sem.wp_mono _ _ _ (fun f q' s' h2 => ?_) (fun _ _ _ h2 => h2.elim) _ _ cls_stmt)
  obtain ⟨rfl, v, d, hS, rfl⟩ := h2
  obtain ⟨es1, n1, t1, rfl⟩ := hS.1.shape
  obtain ⟨es2, n2, t2, rfl⟩ := hS.2.shape
  refine wp_next (piece_top rfl (p_end w es1 n1 t1 es2 n2 t2 os q')) fun q => ?_
  exact (Sem.wp_pure' ..).mpr ⟨rfl, _, _, hS, rfl⟩

theorem p_pre' (w : World) (v d : Obj) (os : OsState) : segGoT table PW w 11 (some (Value.ref 6)) 0 12 (sBoot w v d os) ⟨(topStub PW).cur, cd0, (topStub PW).pos, []⟩ =
    some (sPre w v d os, ⟨denote table cd1, cd1, P0, .ret (kT w os) none false [] cd0 P0 [] :: []⟩) := by
  have h := p_pre w v d os
  rw [go_of, den_of] at h
  exact h
theorem p_fin' (w : World) (v d : Obj) (os : OsState) (s : SharedT) : (segRunT table PW w 11 (some (Value.ref 6)) 0 15 s ⟨kT w os (.ok .next), cd0, P0, []⟩).map (fun r => (r.1, r.2.1)) = some (.ret .none, s) := by
  have h := p_fin w v d os s
  rw [run_of] at h
  exact h

theorem top_runs (w : World) (os : OsState) : ∃ v d, Sets w v d ∧
    Runs (M w) (Ctx.of cd0 []) (topStub PW).pos (topStub PW).cur [] ⟨boot_heap w.params, Array.mk [], boot_drawn, boot_toks, os⟩ (.ret (.ok (.ret .none))) (sEnd w v d os).abs := by
  obtain ⟨f, sB, hB, rfl, v, d, hS, rfl⟩ := runs_of_wp (top_body (w := w) (v0 := default) (d0 := default) (os := os) (q := P0))
  refine ⟨v, d, hS, ?_⟩
  have hb := body_runs (M := M w) (Γ := G1) (b := behindTheImports PW) (env := env1) (q := P0) rfl block_top (S' := (sEnd w v d os).abs) (wp_of_runs hB)
  rw [← p_boot w default default os]
  exact wrap0 (S := sBoot w default default os) (SB := sEnd w v d os) rfl rfl (p_pre' w default default os) (fun kp => hb) (p_fin' w v d os (sEnd w v d os))
end H
end
noncomputable section
open PySem PySem.W PySem.Calls PyProof.Rows
namespace H
section
variable {den : Code → Sem Fin} {p : Program} {w : World}
theorem real_of_ni : ∀ (n : Nat) (s s2 s' : Shared) (t t2 t' : Thread), runNI den p w n s2 t2 = .running s' t' → s2.forget = s.forget → t2.forget = t.forget →
    (∀ k s1 t1, runN den p w k s t = .running s1 t1 → t1.calm = true) → ∃ s1 t1, runN den p w n s t = .running s1 t1 ∧ s1.forget = s'.forget ∧ t1.forget = t'.forget
  | 0, s, s2, s', t, t2, t', h, es, et, _ => by
    simp only [runNI, Run.running.injEq] at h
    exact ⟨s, t, rfl, by rw [← es, h.1], by rw [← et, h.2]⟩
  | n + 1, s, s2, s', t, t2, t', h, es, et, hc => by
    have c : t.calm = true := hc 0 s t rfl
    have c2 : t2.calm = true := by rw [← Thread.calm_forget, et, Thread.calm_forget]; exact c
    rw [runNI_succ] at h
    cases hs : stepI den p w s2 t2 with
    | halt o x => rw [hs] at h; cases h
    | go s3 t3 =>
      rw [hs] at h
      have hk := hs
      rw [stepI_quiet den p w (calm_loud c2)] at hk
      have e := (stepK_forget den p w s2 t2).symm.symm.trans (step_same den p w (s₁ := s2) (s₂ := s) (t₁ := t2) (t₂ := t) es et)
      rw [hk] at e
      cases hq : step den p w s t with
      | halt o x => rw [hq] at e; cases e
      | go s4 t4 =>
        rw [hq] at e
        simp only [Step.forget, Step.go.injEq] at e
        have next : ∀ k, runN den p w (k + 1) s t = runN den p w k s4 t4 := fun k => by simp only [runN, hq]
        obtain ⟨s1, t1, e1, e2, e3⟩ := real_of_ni n s4 s3 s' t4 t3 t' h e.1 e.2 fun k s1 t1 hr => hc (k + 1) s1 t1 ((next k).trans hr)
        exact ⟨s1, t1, (next n).trans e1, e2, e3⟩

theorem ran_of_runs {s₀ s₁ : Shared} {t : Sem Fin} {c : Code} {q : Pos} {f : Flow} (h : Runs (model p w) (Ctx.of c []) q t [] s₀ (.ret (.ok f)) s₁) (hz : s₀.asleep) (hg : s₁.gens = #[]) :
    ∃ n t', schedN (denote table) p w n (.single s₀ ⟨t, c, q, []⟩) = .running (.single s₁ t') ∧ through t' = true := by
  obtain ⟨n, t', c', p', pre', hn, hx⟩ := (runs_iff_reach.mp h).runN
  obtain ⟨rfl, rfl⟩ := hx
  try rw [List.append_nil] at hn
  have hn' : runNI (denote table) p w n s₀ ⟨t, c, q, []⟩ = .running s₁ ⟨leafOf (.ok f), c', p', []⟩ := hn
  have hh : runNI (denote table) p w (n + 1) s₀ ⟨t, c, q, []⟩ = .halted (.done f) s₁ := by
    have := runN_snoc (M := model p w) hn
    refine this.trans ?_
    have e : (model p w).step s₁ ⟨leafOf (.ok f), c', p', []⟩ = .halt (.done f) s₁ := by
      rw [step_leaf_nil]
      unfold PySem.finish
      rw [if_neg]
      · rfl
      · simp [hg, leftWithCleanup]
    rw [e]
  have ends : (Outcome.done f).ends = true := rfl
  obtain ⟨s'', hr, hf, hc⟩ := runNI_real _ _ _ hh ends
  obtain ⟨s2, t2, e1, e2, e3⟩ := real_of_ni n s₀ s₀ s₁ _ _ _ hn' rfl rfl hc
  have hs2 : s2 = s₁ := Shared.eq_of_forget_eq e2 hg
  subst hs2
  have hne : ∀ k s₂, runN (denote table) p w k s₀ ⟨t, c, q, []⟩ ≠ .halted (.unsupported "lifetime:generator-with-cleanup-left-suspended") s₂ := by
    intro k s₂ hk
    have a := runN_mono (denote table) p w (n + 1) k _ _ _ s'' hr
    have b := runN_mono (denote table) p w k (n + 1) _ _ _ s₂ hk
    rw [Nat.add_comm, b] at a
    injection a with a1 _
    cases a1
  have hsch := (schedN_eq_runN (denote table) p w s₀ ⟨t, c, q, []⟩ hz ⟨hc, hne⟩ n).trans (congrArg Run.lift e1)
  refine ⟨n, t2, hsch, ?_⟩
  obtain ⟨cu, co, po, sk⟩ := t2
  have a := congrArg Thread.cur e3
  have b := congrArg Thread.stack e3
  have a' : cu = .pure (.done f) := a
  have b' : forgetAll sk = forgetAll [] := b
  subst a'
  cases sk with
  | nil => rfl
  | cons x r => cases b'
end
end H
end
noncomputable section
open PySem PySem.W PySem.Calls PyProof.Rows
namespace H
noncomputable abbrev QV : Program := view PW [25]
noncomputable def looseV : List Str := ["_wall", "BaseStemmer", "Among", "EsperantoStemmer", "lab0", "lab1", "_law_vowels", "_law_digits", "_law_pronouns", "_law_heads", "_law_stays", "_law_numerals", "_law_shapes", "_law_adds", "_law_pieces", "_law_marked", "_law_hatted", "_law_among", "_law_left", "_law_again", "_law_word"]
theorem seen_end (w : World) (es1 : Array (Int × Value)) (n1 : Nat) (t1 : SetTable) (es2 : Array (Int × Value)) (n2 : Nat) (t2 : SetTable) (os : OsState) :
    PySem.W.Fast.tw4187177175401517315 QV looseV (importedModules PW.main.body) (fun _ => true) true (sEnd w (mkSet es1 n1 t1) (mkSet es2 n2 t2) os).abs = openGood QV looseV := by kernel_rfl
end H
end
noncomputable section
open PySem PySem.W PySem.Calls PyProof.Rows
namespace H

noncomputable abbrev sBeg (w : World) (os : OsState) : Shared := ⟨boot_heap w.params, Array.mk [], boot_drawn, boot_toks, os⟩

theorem seen_end' {w : World} {v d : Obj} (hS : Sets w v d) (os : OsState) : openSeen QV looseV (importedModules PW.main.body) (fun _ => true) true (sEnd w v d os).abs = openGood QV looseV := by
  obtain ⟨es1, n1, t1, rfl⟩ := hS.1.shape
  obtain ⟨es2, n2, t2, rfl⟩ := hS.2.shape
  have h := seen_end w es1 n1 t1 es2 n2 t2 os
  rw [← PySem.W.Fast.te4187177175401517315] at h
  exact h

noncomputable abbrev fEnd (w : World) (v d : Obj) (os : OsState) : Shared := (sEnd w v d os).abs

theorem kept0 (w : World) (v d : Obj) (os : OsState) : (fEnd w v d os).heap.get? 0 = (sBoot w v d os).abs.heap.get? 0 := by kernel_rfl
theorem kept1 (w : World) (v d : Obj) (os : OsState) : (fEnd w v d os).heap.get? 1 = (sBoot w v d os).abs.heap.get? 1 := by kernel_rfl
theorem kept4 (w : World) (v d : Obj) (os : OsState) : (fEnd w v d os).heap.get? 4 = (sBoot w v d os).abs.heap.get? 4 := by kernel_rfl
theorem kept5 (w : World) (v d : Obj) (os : OsState) : (fEnd w v d os).heap.get? 5 = (sBoot w v d os).abs.heap.get? 5 := by kernel_rfl
theorem kept7 (w : World) (v d : Obj) (os : OsState) : (fEnd w v d os).heap.get? 7 = (sBoot w v d os).abs.heap.get? 7 := by kernel_rfl
theorem kept8 (w : World) (v d : Obj) (os : OsState) : (fEnd w v d os).heap.get? 8 = (sBoot w v d os).abs.heap.get? 8 := by kernel_rfl
theorem kept9 (w : World) (v d : Obj) (os : OsState) : (fEnd w v d os).heap.get? 9 = (sBoot w v d os).abs.heap.get? 9 := by kernel_rfl
theorem kept10 (w : World) (v d : Obj) (os : OsState) : (fEnd w v d os).heap.get? 10 = (sBoot w v d os).abs.heap.get? 10 := by kernel_rfl
theorem ann6 (w : World) (v d : Obj) (os : OsState) : globalOf (sBoot w v d os).abs.heap "__annotations__" = some (.ref 6) := by kernel_rfl
theorem size11 (w : World) (v d : Obj) (os : OsState) : (sBoot w v d os).abs.heap.objs.size = 11 := by kernel_rfl

theorem old_all (w : World) (v d : Obj) (os : OsState) (b : Nat) (o : Obj) (h : (sBoot w v d os).abs.heap.get? b = some o) (hn : ¬ theTopsOwn (sBoot w v d os).abs.heap b) : (fEnd w v d os).heap.get? b = some o := by
  have hb := Heap.lt_size h
  rw [size11] at hb
  have hb : (b : Nat) < 11 := hb
  have n3 : (b : Nat) ≠ 3 := fun e => hn (.inl e)
  have n2 : (b : Nat) ≠ 2 := fun e => hn (.inr (.inl e))
  have n6 : (b : Nat) ≠ 6 := fun e => hn (.inr (.inr (by rw [ann6, e])))
  have c := ((((by decide : ∀ b : Nat, b < 11 → b = 3 ∨ b = 2 ∨ b = 6 ∨ b = 0 ∨ b = 1 ∨ b = 4 ∨ b = 5 ∨ b = 7 ∨ b = 8 ∨ b = 9 ∨ b = 10) b hb).resolve_left n3).resolve_left n2).resolve_left n6
  rcases c with c | c | c | c | c | c | c | c <;> subst c
  · exact (kept0 w v d os).trans h
  · exact (kept1 w v d os).trans h
  · exact (kept4 w v d os).trans h
  · exact (kept5 w v d os).trans h
  · exact (kept7 w v d os).trans h
  · exact (kept8 w v d os).trans h
  · exact (kept9 w v d os).trans h
  · exact (kept10 w v d os).trans h

theorem statics_ok (w : World) (v d : Obj) (os : OsState) : staticsOk (importedModules PW.main.body) (sBoot w v d os).abs.heap (fEnd w v d os).heap = true := by kernel_rfl
theorem names_ok (w : World) (v d : Obj) (os : OsState) : namesBound PW (fEnd w v d os).heap = true := by kernel_rfl
theorem laid_ok (w : World) (v d : Obj) (os : OsState) : laidKept (sBoot w v d os).abs.heap (fEnd w v d os).heap = true := by kernel_rfl

theorem ran {w : World} {os : OsState} {v d : Obj} (hS : Sets w v d) (r : Runs (M w) (Ctx.of cd0 []) (topStub PW).pos (topStub PW).cur [] (sBeg w os) (.ret (.ok (.ret .none))) (fEnd w v d os)) (hz : (sBeg w os).asleep) :
    TopRan PW w (sBeg w os) (fEnd w v d os) ∧ (fEnd w v d os).asleep ∧ (fEnd w v d os).heap.isNs mainGlobals = true ∧
      Ground QV looseV [] (fun _ _ => True) w (fEnd w v d os) ((fEnd w v d os).heap.nsMap mainGlobals) ((fEnd w v d os).heap.nsMap builtinsNs) (fEnd w v d os).heap := by
  obtain ⟨n, t, hs, ht⟩ := ran_of_runs r hz rfl
  obtain ⟨G, g0, g1, g2, g3, g4, g5⟩ := ground_of_open (w := w) (q := QV) (loose := looseV) (XP := fun _ _ => True) (fun _ _ => trivial) (by kernel_rfl) (seen_end' hS os)
  have hl : (fEnd w v d os).heap.life = (sBeg w os).heap.life := runs_life r
  have e0 : sBeg w os = (sBoot w v d os).abs := (p_boot w v d os).symm
  refine ⟨⟨⟨n, t, hs, ht⟩, hl, rfl, ?_, g2, ?_, g3, g4, g5, ?_, names_of_bound (names_ok w v d os), ?_⟩, Shared.asleep_of_life hl hz, g1, G⟩
  · rw [e0]; exact fun b o h hn => old_all w v d os b o h hn
  · rw [e0]; exact statics_of_ok (statics_ok w v d os)
  · intro g hg
    have : g ∈ (#[] : Array GenState) := hg
    simp at this
  · rw [e0]; exact laid_of_kept (laid_ok w v d os)

theorem behind (w : World) : (∃ s, AfterRun (opening PW) w s) ∧ ∀ s, AfterRun (opening PW) w s → ∃ s₀, fenceModules? PW s = some s₀ ∧ s₀.gens = #[] ∧ ∃ v d os, Sets w v d ∧ TopRan PW w s₀ (fEnd w v d os) ∧ (fEnd w v d os).asleep ∧ (fEnd w v d os).heap.isNs mainGlobals = true ∧
      Ground QV looseV [] (fun _ _ => True) w (fEnd w v d os) ((fEnd w v d os).heap.nsMap mainGlobals) ((fEnd w v d os).heap.nsMap builtinsNs) (fEnd w v d os).heap := by
  have h := boot_open (p := PW) (N := 600) (by rfl) (by rfl) (fun s => by rfl) w
  obtain ⟨s₀, h2, e⟩ := Option.map_eq_some_iff.mp h
  obtain ⟨s, h4, h5⟩ := Option.bind_eq_some_iff.mp h2
  rw [← table_eq_tree] at h4
  have A := AfterImport.of_importEnds h4
  refine ⟨⟨s, A⟩, fun s' hs' => ?_⟩
  obtain rfl : s' = s := AfterImport.unique hs' A
  have z : s₀.asleep := Shared.asleep_of_life (fence_lifeW h5) A.life
  obtain ⟨hp, gn, dr, tk, os⟩ := s₀
  simp only [Prod.mk.injEq] at e
  obtain ⟨rfl, rfl, rfl, rfl⟩ := e
  obtain ⟨v, d, hS, r⟩ := top_runs w os
  exact ⟨sBeg w os, h5, rfl, v, d, os, hS, ran hS r z⟩
end H
end
noncomputable section
open PySem PySem.W PySem.Calls PyProof.Rows
namespace H

noncomputable abbrev RW : OpenLaw := PySem.Challenge.rw_is0015_01
theorem and1 {a b : Bool} (x : b = true) (y : a = true) : (a && b) = true := look_both y x
theorem rv : readsOut PW PW.main.body "vars" = false := by kernel_rfl
theorem rd : readsOut PW PW.main.body "dir" = false := by kernel_rfl
theorem rl : readsOut PW PW.main.body "locals" = false := by kernel_rfl
theorem bare0 : (["vars", "dir", "locals"] : List Str).filter (readsOut PW PW.main.body) = [] := (List.filter_cons_of_neg (Bool.eq_false_iff.mp rv)).trans ((List.filter_cons_of_neg (Bool.eq_false_iff.mp rd)).trans (List.filter_cons_of_neg (Bool.eq_false_iff.mp rl)))
theorem nres : namesResolve PW = true := by kernel_rfl
theorem nmeet : namesMeet PW PW.main.body (fun _ n => attrL n) = true := by kernel_rfl
theorem lo : looksOpen PW = true := by
  refine and1 nmeet (and1 ?_ (and1 (by kernel_rfl) (and1 nres (by kernel_rfl))))
  rw [bare0]
  kernel_rfl
theorem part : RW.row.wellSaid = true := by
  iterate 15 refine and1 (by kernel_rfl) ?_
  exact lo
theorem n3 : noRoadLSs { strict := true, foot := some RW.bound', writes := RW.writes, may := RW.may } RW.footing = true := by kernel_rfl
theorem n8 : namesMeet RW.prog RW.above (fun _ n => !RW.own.contains n) = true := by kernel_rfl
theorem said : RW.wellSaid = true := by
  refine and1 (by kernel_rfl) (and1 n8 ?_)
  iterate 10 refine and1 (by kernel_rfl) ?_
  refine and1 n3 ?_
  iterate 5 refine and1 (by kernel_rfl) ?_
  exact part

structure Begun (w : World) (v d : Obj) (os : OsState) (s : Shared) : Prop where
  sets : Sets w v d
  base : ∀ b o, (fEnd w v d os).heap.get? b = some o → s.heap.get? b = some o
  gens : s.gens = #[]
  os : s.os = os

theorem ints_inv {R : WRecords} {cl : Str → Option Addr} {h : Heap} : ∀ {vs : List Value} {ds : List WData} {as : List Addr}, ReadsAllW R cl h vs ds as → WShape.hasItems R ds .int = true → ∃ ns, IntsAre vs ns ∧ ns.length = ds.length
  | _, _, _, .nil, _ => ⟨[], .nil, rfl⟩
  | _, _, _, .cons (ds := ds) r1 r2, hh => by
    simp only [WShape.hasItems, Bool.and_eq_true] at hh
    obtain ⟨ns, h1, h2⟩ := ints_inv r2 hh.2
    cases r1 with
    | int i t => exact ⟨i :: ns, .cons i t h1, by simp [h2]⟩
    | none => exact Bool.noConfusion (show false = true from hh.1)
    | bool b => exact Bool.noConfusion (show false = true from hh.1)
    | str x t => exact Bool.noConfusion (show false = true from hh.1)
    | list => exact Bool.noConfusion (show false = true from hh.1)
    | tuple => exact Bool.noConfusion (show false = true from hh.1)
    | dict => exact Bool.noConfusion (show false = true from hh.1)
    | float => exact Bool.noConfusion (show false = true from hh.1)
    | bytes => exact Bool.noConfusion (show false = true from hh.1)
    | bytearray => exact Bool.noConfusion (show false = true from hh.1)
    | set => exact Bool.noConfusion (show false = true from hh.1)
    | frozenset => exact Bool.noConfusion (show false = true from hh.1)
    | obj => exact Bool.noConfusion (show false = true from hh.1)

theorem script_inv {cl : Str → Option Addr} {h : Heap} {args : List WData} {vs : List Value} {as : List Addr} (hpre : RW.row.toRowW.claim.pre args = true) (hrd : ReadsAllW [] cl h vs args as) :
    ∃ l items ns, vs = [.ref l] ∧ h.IsList l items ∧ IntsAre items.toList ns ∧ ns.length ≤ 63 := by
  obtain ⟨h1, h2⟩ := pre_splitW (r := RW.row.toRowW) hpre
  obtain ⟨d, r, rfl, h3, h4⟩ := hasAllW_cons (e := .list .int) (es := []) h1
  obtain rfl := hasAllW_nil h4
  cases hrd with
  | cons r1 r2 =>
    cases r2
    cases r1 with
    | @list a o its n xs as ho hc hd hall =>
      have h3' : WShape.hasItems RW.row.toRowW.records xs .int = true := by simpa [WShape.has, WShape.arms] using h3
      obtain ⟨ns, h5, h6⟩ := ints_inv hall h3'
      refine ⟨a, its, ns, rfl, ⟨o, ho, hc, n, hd⟩, h5, ?_⟩
      rw [h6]
      have h7 : (WTm.and (.not (.lt (.lit (.int (63 : Nat))) (.len (.arg 0)))) (.lit (.bool true)) : WTm).holds [] { args := [.list xs] } = true := h2
      simp [WTm.holds, WTm.value] at h7
      by_cases hle : xs.length ≤ 63
      · exact hle
      · exfalso
        have e : less? (WData.int 63) (WData.int (xs.length : Nat)) = some true := by
          simp [less?, Num.less?]
          omega
        rw [e] at h7
        simp at h7
    | none => exact Bool.noConfusion (show false = true from h3)
    | bool b => exact Bool.noConfusion (show false = true from h3)
    | str x t => exact Bool.noConfusion (show false = true from h3)
    | int => exact Bool.noConfusion (show false = true from h3)
    | tuple => exact Bool.noConfusion (show false = true from h3)
    | dict => exact Bool.noConfusion (show false = true from h3)
    | float => exact Bool.noConfusion (show false = true from h3)
    | bytes => exact Bool.noConfusion (show false = true from h3)
    | bytearray => exact Bool.noConfusion (show false = true from h3)
    | set => exact Bool.noConfusion (show false = true from h3)
    | frozenset => exact Bool.noConfusion (show false = true from h3)
    | obj => exact Bool.noConfusion (show false = true from h3)

theorem law_def : ∃ d kwd, defOf QV RW.row.name = some (d, kwd) ∧ PW.theDef RW.row.name = some (d.params, d.body, d.scope) ∧ kwWritten? d.params.kwonlyargs d.params.kw_defaults = some kwd := by
  exact ⟨_, _, rfl, rfl, rfl⟩

theorem law_at (w : World) (v d : Obj) (os : OsState) : (fEnd w v d os).heap.nsMap mainGlobals RW.row.name = some (.ref 782) := by kernel_rfl

theorem holds_of_call
    (call : ∀ (w : World) (v d : Obj) (os : OsState) (s₁ : Shared), Begun w v d os s₁ →
      Ground QV looseV [] (fun _ _ => True) w (fEnd w v d os) ((fEnd w v d os).heap.nsMap mainGlobals) ((fEnd w v d os).heap.nsMap builtinsNs) s₁.heap →
      ∀ (l : Addr) (items : Array Value) (ns : List Int), s₁.heap.IsList l items → IntsAre items.toList ns → ns.length ≤ 63 →
      wpAny (model PW w) callerA (PySem.call (.ref 782) [.ref l]) (fun v s' => v = .bool true ∧ (∀ b o, s₁.heap.get? b = some o → s'.heap.get? b = some o) ∧ s'.os = s₁.os ∧ s'.gens = #[]) (fun _ _ => False) s₁) : RW.Holds := by
  refine holds_law said fun said' => ?_
  have hw : RW.row.toRowW.promised := ⟨[.list []], by decide +kernel, by decide +kernel⟩
  refine ⟨said', hw, ⟨⟨rfl, rfl, rfl, rfl, rfl, by decide +kernel⟩, by kernel_rfl, rfl⟩, hw.witness, fun w => ⟨(behind w).1, fun s' hs' => ?_⟩⟩
  obtain ⟨s₀, hf, hg0, v, d, os, hS, hT, hz, hg, G⟩ := (behind w).2 s' hs'
  refine ⟨s₀, hf, hg0, fEnd w v d os, hT, fun n hn => ?_, fun x hx => (nomatch hx), fun x hx => (nomatch hx), ?_⟩
  · obtain rfl : n = RW.row.name := by
      have : n ∈ [RW.row.name] := hn
      simpa using this
    obtain ⟨d', kwd, h1, h2, h3⟩ := law_def
    exact pinned_of_view hg G h1 h2 h3
  refine ClaimW.callFrom_of_specG (c := RW.row.toRowW.claim) hz rfl fun args hpre hlay ord hord => ?_
  obtain ⟨⟨vs, s₁⟩, hlaid⟩ := Option.isSome_iff_exists.mp (layAllW_isSome (P := w.params) (ord := ord) G.has args RW.row.toRowW.args (fEnd w v d os) (pre_splitW hpre).1)
  have keeps := layAllW_keeps _ _ _ hlaid
  have hal := layAllW_rest _ _ _ hlaid
  obtain ⟨as, hrd, hin, hold⟩ := reads_layAllW hord _ _ _ hlaid hlay s₁.heap (fun _ _ e => e)
  have L : Laid RW.row.toRowW.records w (fEnd w v d os) s₁ args vs as := ⟨⟨ord, hord, hlaid⟩, hrd, hin, hold, keeps, hal.1.trans rfl, hal.2.2.1⟩
  have G₁ := G.keeps (fun _ _ _ _ _ => trivial) keeps
  obtain ⟨l, items, ns, rfl, hl, hi, hn⟩ := script_inv hpre hrd
  have h := call w v d os s₁ ⟨hS, keeps, L.gens, L.os⟩ G₁ l items ns hl hi hn
  have key : ∀ vr s', (vr = Value.bool true ∧ (∀ b o, s₁.heap.get? b = some o → s'.heap.get? b = some o) ∧ s'.os = s₁.os ∧ s'.gens = #[]) → GoodWG RW.row.toRowW.claim (classAt (fEnd w v d os).heap) (ExcName.means (fEnd w v d os).heap) args s₁ (.ok (.ret vr)) s' := by
    rintro vr s' ⟨rfl, h1, h2, h3⟩
    exact GoodW.toG ⟨.inl ⟨_, .bool true, [], rfl, fun cls => rfl, .bool true, by simp [RowW.claim, OpenLaw.row, WTm.holds, WTm.value, WShape.has, WShape.arms, same], fun _ => ⟨.nil, fun a ha => (nomatch ha)⟩⟩, h1, h2, h3⟩
  have hi' := ident_freeW (r := RW.row.toRowW) rfl rfl rfl
  refine ⟨_, s₁, hlaid, ?_⟩
  refine wpAny_bind (wpAny_nsGet G₁.T.g ?_)
  rw [show (fEnd w v d os).heap.nsMap mainGlobals RW.row.name = some (.ref 782) from law_at w v d os]
  refine wpAny_bind (wpAny_mono h (fun vr s' g => wpAny_pure ?_) fun _ _ x => x.elim)
  · have z := (key vr s' g).laid (c := RW.row.toRowW.claim) rfl rfl hi' L
    exact ⟨_, rfl, z.1, z.2.1, z.2.2, fun q => absurd q (by decide)⟩
end H
end
noncomputable section
open PySem PySem.W PySem.Calls PyProof.Rows
namespace H
noncomputable def KFx (x : X) : Frag := [(3, (o573 x)),
(2, (o604 x)),
(674, (o572 x)),
(673, (o569 x)),
(199, (o566 x)),
(198, (o129 x)),
(220, (o108 x)),
(219, (o44 x)),
(686, (o633 x)),
(685, (o600 x)),
(699, (o589 x)),
(698, (o628 x)),
(717, (o599 x)),
(725, (o597 x)),
(726, (o630 x)),
(741, (o596 x)),
(232, x.v),
(233, x.d),
(35, (o31 x)),
(34, (o111 x)),
(42, (o120 x)),
(41, (o54 x)),
(49, (o51 x)),
(48, (o82 x)),
(77, (o71 x)),
(76, (o105 x)),
(112, (o85 x)),
(111, (o20 x)),
(133, (o64 x)),
(132, (o98 x)),
(140, (o106 x)),
(139, (o39 x)),
(147, (o35 x)),
(146, (o116 x)),
(154, (o124 x)),
(153, (o59 x)),
(161, (o50 x)),
(160, (o80 x)),
(189, (o77 x)),
(188, (o110 x)),
(240, (o174 x)),
(239, (o153 x)),
(247, (o155 x)),
(246, (o192 x)),
(254, (o195 x)),
(253, (o172 x)),
(261, (o166 x)),
(260, (o178 x)),
(268, (o181 x)),
(267, (o160 x)),
(275, (o158 x)),
(274, (o184 x)),
(282, (o187 x)),
(281, (o165 x)),
(289, (o163 x)),
(288, (o173 x)),
(296, (o176 x)),
(295, (o154 x)),
(303, (o152 x)),
(302, (o193 x)),
(310, (o191 x)),
(309, (o168 x)),
(709, (o594 x)),
(708, (o612 x)),
(716, (o617 x)),
(715, (o585 x)),
(724, (o614 x)),
(723, (o583 x)),
(733, (o601 x)),
(732, (o619 x)),
(740, (o613 x)),
(739, (o582 x)),
(748, (o618 x)),
(747, (o587 x)),
(755, (o584 x)),
(754, (o624 x)),
(762, (o629 x)),
(761, (o593 x)),
(767, (o574 x)),
(766, (o635 x)),
(772, (o611 x)),
(771, (o580 x)),
(777, (o592 x)),
(776, (o606 x)),
(782, (o632 x)),
(781, (o598 x)),
(362, (o240 x)),
(312, (o229 x)),
(311, (o202 x)),
(315, (o209 x)),
(314, (o242 x)),
(318, (o248 x)),
(317, (o222 x)),
(321, (o210 x)),
(320, (o223 x)),
(324, (o230 x)),
(323, (o203 x)),
(327, (o199 x)),
(326, (o243 x)),
(330, (o239 x)),
(329, (o213 x)),
(333, (o220 x)),
(332, (o233 x)),
(336, (o225 x)),
(335, (o198 x)),
(339, (o206 x)),
(338, (o238 x)),
(342, (o245 x)),
(341, (o219 x)),
(345, (o215 x)),
(344, (o228 x)),
(348, (o234 x)),
(347, (o208 x)),
(351, (o197 x)),
(350, (o247 x)),
(354, (o237 x)),
(353, (o211 x)),
(357, (o218 x)),
(356, (o231 x)),
(360, (o227 x)),
(359, (o200 x)),
(433, (o286 x)),
(383, (o269 x)),
(382, (o321 x)),
(386, (o309 x)),
(385, (o283 x)),
(389, (o290 x)),
(388, (o303 x)),
(392, (o300 x)),
(391, (o273 x)),
(395, (o280 x)),
(394, (o312 x)),
(398, (o318 x)),
(397, (o293 x)),
(401, (o285 x)),
(400, (o298 x)),
(404, (o305 x)),
(403, (o279 x)),
(407, (o275 x)),
(406, (o317 x)),
(410, (o314 x)),
(409, (o289 x)),
(413, (o295 x)),
(412, (o308 x)),
(416, (o297 x)),
(415, (o270 x)),
(419, (o277 x)),
(418, (o310 x)),
(422, (o316 x)),
(421, (o291 x)),
(425, (o288 x)),
(424, (o301 x)),
(428, (o307 x)),
(427, (o281 x)),
(431, (o272 x)),
(430, (o319 x)),
(501, (o388 x)),
(496, (o389 x)),
(495, (o384 x)),
(499, (o386 x)),
(498, (o391 x)),
(574, (o464 x)),
(503, (o400 x)),
(502, (o460 x)),
(506, (o455 x)),
(505, (o419 x)),
(509, (o428 x)),
(508, (o446 x)),
(512, (⟨(R 220), (some 511), .plain, #[]⟩)),
(511, (o392 x)),
(515, (⟨(R 220), (some 514), .plain, #[]⟩)),
(514, (o447 x)),
(518, (⟨(R 220), (some 517), .plain, #[]⟩)),
(517, (o420 x)),
(521, (⟨(R 220), (some 520), .plain, #[]⟩)),
(520, (o433 x)),
(524, (⟨(R 220), (some 523), .plain, #[]⟩)),
(523, (o406 x)),
(527, (⟨(R 220), (some 526), .plain, #[]⟩)),
(526, (o461 x)),
(530, (⟨(R 220), (some 529), .plain, #[]⟩)),
(529, (o413 x)),
(533, (⟨(R 220), (some 532), .plain, #[]⟩)),
(532, (o440 x)),
(536, (⟨(R 220), (some 535), .plain, #[]⟩)),
(535, (o398 x)),
(539, (⟨(R 220), (some 538), .plain, #[]⟩)),
(538, (o453 x)),
(542, (⟨(R 220), (some 541), .plain, #[]⟩)),
(541, (o426 x)),
(545, (⟨(R 220), (some 544), .plain, #[]⟩)),
(544, (o430 x)),
(548, (⟨(R 220), (some 547), .plain, #[]⟩)),
(547, (o402 x)),
(551, (⟨(R 220), (some 550), .plain, #[]⟩)),
(550, (o457 x)),
(554, (⟨(R 220), (some 553), .plain, #[]⟩)),
(553, (o416 x)),
(557, (⟨(R 220), (some 556), .plain, #[]⟩)),
(556, (o443 x)),
(560, (⟨(R 220), (some 559), .plain, #[]⟩)),
(559, (o395 x)),
(563, (⟨(R 220), (some 562), .plain, #[]⟩)),
(562, (o450 x)),
(566, (⟨(R 220), (some 565), .plain, #[]⟩)),
(565, (o423 x)),
(569, (⟨(R 220), (some 568), .plain, #[]⟩)),
(568, (o436 x)),
(572, (⟨(R 220), (some 571), .plain, #[]⟩)),
(571, (o409 x)),
(584, (⟨(T "list"), none, (.seq #[(R 576), (R 579), (R 582)] 0), #[]⟩)),
(576, (⟨(R 220), (some 575), .plain, #[]⟩)),
(575, (o466 x)),
(579, (⟨(R 220), (some 578), .plain, #[]⟩)),
(578, (o497 x)),
(582, (⟨(R 220), (some 581), .plain, #[]⟩)),
(581, (o482 x)),
(591, (⟨(T "list"), none, (.seq #[(R 586), (R 589)] 0), #[]⟩)),
(586, (⟨(R 220), (some 585), .plain, #[]⟩)),
(585, (o480 x)),
(589, (⟨(R 220), (some 588), .plain, #[]⟩)),
(588, (o495 x)),
(613, (o483 x)),
(593, (⟨(R 220), (some 592), .plain, #[]⟩)),
(592, (o489 x)),
(596, (⟨(R 220), (some 595), .plain, #[]⟩)),
(595, (o474 x)),
(599, (⟨(R 220), (some 598), .plain, #[]⟩)),
(598, (o503 x)),
(602, (⟨(R 220), (some 601), .plain, #[]⟩)),
(601, (o481 x)),
(605, (⟨(R 220), (some 604), .plain, #[]⟩)),
(604, (o496 x)),
(608, (⟨(R 220), (some 607), .plain, #[]⟩)),
(607, (o467 x)),
(611, (⟨(R 220), (some 610), .plain, #[]⟩)),
(610, (o498 x)),
(671, (o507 x)),
(615, (⟨(R 220), (some 614), .plain, #[]⟩)),
(614, (o558 x)),
(618, (⟨(R 220), (some 617), .plain, #[]⟩)),
(617, (o526 x)),
(621, (⟨(R 220), (some 620), .plain, #[]⟩)),
(620, (o547 x)),
(624, (⟨(R 220), (some 623), .plain, #[]⟩)),
(623, (o509 x)),
(627, (⟨(R 220), (some 626), .plain, #[]⟩)),
(626, (o552 x)),
(630, (⟨(R 220), (some 629), .plain, #[]⟩)),
(629, (o531 x)),
(633, (⟨(R 220), (some 632), .plain, #[]⟩)),
(632, (o542 x)),
(636, (⟨(R 220), (some 635), .plain, #[]⟩)),
(635, (o521 x)),
(639, (⟨(R 220), (some 638), .plain, #[]⟩)),
(638, (o564 x)),
(642, (⟨(R 220), (some 641), .plain, #[]⟩)),
(641, (o522 x)),
(645, (⟨(R 220), (some 644), .plain, #[]⟩)),
(644, (o543 x)),
(648, (⟨(R 220), (some 647), .plain, #[]⟩)),
(647, (o510 x)),
(651, (⟨(R 220), (some 650), .plain, #[]⟩)),
(650, (o553 x)),
(654, (⟨(R 220), (some 653), .plain, #[]⟩)),
(653, (o532 x)),
(657, (⟨(R 220), (some 656), .plain, #[]⟩)),
(656, (o537 x)),
(660, (⟨(R 220), (some 659), .plain, #[]⟩)),
(659, (o516 x)),
(663, (⟨(R 220), (some 662), .plain, #[]⟩)),
(662, (o559 x)),
(666, (⟨(R 220), (some 665), .plain, #[]⟩)),
(665, (o527 x)),
(669, (⟨(R 220), (some 668), .plain, #[]⟩)),
(668, (o548 x))]
noncomputable def KF (P : Params) (v d : Obj) : Frag := KFx ⟨P, v, d⟩
theorem kf_at (w : World) (es1 : Array (Int × Value)) (n1 : Nat) (t1 : SetTable) (es2 : Array (Int × Value)) (n2 : Nat) (t2 : SetTable) (os : OsState) : ([3, 2, 674, 673, 199, 198, 220, 219, 686, 685, 699, 698, 717, 725, 726, 741, 232, 233, 35, 34, 42, 41, 49, 48, 77, 76, 112, 111, 133, 132, 140, 139, 147, 146, 154, 153, 161, 160, 189, 188, 240, 239, 247, 246, 254, 253, 261, 260, 268, 267, 275, 274, 282, 281, 289, 288, 296, 295, 303, 302, 310, 309, 709, 708, 716, 715, 724, 723, 733, 732, 740, 739, 748, 747, 755, 754, 762, 761, 767, 766, 772, 771, 777, 776, 782, 781, 362, 312, 311, 315, 314, 318, 317, 321, 320, 324, 323, 327, 326, 330, 329, 333, 332, 336, 335, 339, 338, 342, 341, 345, 344, 348, 347, 351, 350, 354, 353, 357, 356, 360, 359, 433, 383, 382, 386, 385, 389, 388, 392, 391, 395, 394, 398, 397, 401, 400, 404, 403, 407, 406, 410, 409, 413, 412, 416, 415, 419, 418, 422, 421, 425, 424, 428, 427, 431, 430, 501, 496, 495, 499, 498, 574, 503, 502, 506, 505, 509, 508, 512, 511, 515, 514, 518, 517, 521, 520, 524, 523, 527, 526, 530, 529, 533, 532, 536, 535, 539, 538, 542, 541, 545, 544, 548, 547, 551, 550, 554, 553, 557, 556, 560, 559, 563, 562, 566, 565, 569, 568, 572, 571, 584, 576, 575, 579, 578, 582, 581, 591, 586, 585, 589, 588, 613, 593, 592, 596, 595, 599, 598, 602, 601, 605, 604, 608, 607, 611, 610, 671, 615, 614, 618, 617, 621, 620, 624, 623, 627, 626, 630, 629, 633, 632, 636, 635, 639, 638, 642, 641, 645, 644, 648, 647, 651, 650, 654, 653, 657, 656, 660, 659, 663, 662, 666, 665, 669, 668] : List Addr).map (fEnd w (mkSet es1 n1 t1) (mkSet es2 n2 t2) os).heap.get? = (KF w.params (mkSet es1 n1 t1) (mkSet es2 n2 t2)).map fun p => some p.2 := by kernel_rfl
theorem kf_in {w : World} {v d : Obj} (hS : Sets w v d) (os : OsState) : (KF w.params v d).In (fEnd w v d os).heap := by
  obtain ⟨es1, n1, t1, rfl⟩ := hS.1.shape
  obtain ⟨es2, n2, t2, rfl⟩ := hS.2.shape
  exact Frag.in_of rfl (kf_at w es1 n1 t1 es2 n2 t2 os)
end H
end
noncomputable section
open PySem PySem.W PySem.Calls PyProof.Rows
open H (Sets fEnd KF kf_in QV looseV PW)

noncomputable abbrev sx (l : List Nat) : Str := ⟨⟨l⟩⟩

inductive AV where
  | none | bool (b : Bool) | int (i : Int) | str (l : List Nat) | val (v : Value)
  | strs (l : List (List Nat)) | ints (l : List Int) | pairs (l : List (List Nat × List Nat)) | pair (a b : List Nat)

def IsPair (h : Heap) (v : Value) (a b : List Nat) : Prop := ∃ p t u, v = .ref p ∧ IsTup h p #[.str (sx a) t, .str (sx b) u]
noncomputable def PairsAre (h : Heap) : List Value → List (List Nat × List Nat) → Prop
  | [], [] => True
  | v :: vs, p :: ps => IsPair h v p.1 p.2 ∧ PairsAre h vs ps
  | _, _ => False

noncomputable def Rv (h : Heap) : AV → Value → Prop
  | .none, v => v = .none
  | .bool b, v => v = .bool b
  | .int i, v => ∃ t, v = .int i t
  | .str l, v => ∃ t, v = .str (sx l) t
  | .val x, v => v = x
  | .strs ls, v => ∃ a vs, v = .ref a ∧ h.IsList a (List.toArray vs) ∧ StrsAre vs (ls.map sx)
  | .ints ls, v => ∃ a vs, v = .ref a ∧ h.IsList a (List.toArray vs) ∧ IntsAre vs ls
  | .pairs ls, v => ∃ a vs, v = .ref a ∧ h.IsList a (List.toArray vs) ∧ PairsAre h vs ls
  | .pair x y, v => IsPair h v x y

def Step (h h' : Heap) : Prop := ∀ b o, h.get? b = some o → (∀ es n, o.data ≠ .dict es n) → (∀ vs, o.data ≠ .fields vs) → ∃ sl, h'.get? b = some { o with slots := sl }
theorem Step.refl (h : Heap) : Step h h := fun _ o e _ _ => ⟨o.slots, e⟩
theorem Step.trans {h h1 h2 : Heap} (x : Step h h1) (y : Step h1 h2) : Step h h2 := fun b o e n1 n2 => by
  obtain ⟨sl, e1⟩ := x b o e n1 n2
  obtain ⟨sl2, e2⟩ := y b _ e1 n1 n2
  exact ⟨sl2, e2⟩
theorem Step.of_keeps {h h' : Heap} (k : ∀ b o, h.get? b = some o → h'.get? b = some o) : Step h h' := fun b o e _ _ => ⟨o.slots, k b o e⟩
theorem Step.of_slots {h h' : Heap} (k : h.UpToSlots h') : Step h h' := fun b o e _ n => k b o e n
theorem Step.of_but {h h' : Heap} {L : Addr} {m : Str → Option Value} (hn : h.Ns L m) (k : Heap.SameBut L h h') : Step h h' := fun b o e n1 _ => by
  obtain ⟨oL, es, ep, hL, hd, _⟩ := hn
  have : b ≠ L := fun q => by rw [q, hL] at e; cases e; exact n1 _ _ hd
  exact ⟨o.slots, (k.2 b this).trans e⟩

theorem IsList.step {h h' : Heap} {a : Addr} {l : Array Value} (x : h.IsList a l) (k : Step h h') : h'.IsList a l := by
  obtain ⟨o, e, c, n, d⟩ := x
  obtain ⟨sl, e'⟩ := k a o e (fun _ _ q => by rw [d] at q; cases q) (fun _ q => by rw [d] at q; cases q)
  exact ⟨_, e', c, n, d⟩
theorem IsTup.step {h h' : Heap} {a : Addr} {l : Array Value} (x : IsTup h a l) (k : Step h h') : IsTup h' a l := by
  obtain ⟨o, e, c, n, d⟩ := x
  obtain ⟨sl, e'⟩ := k a o e (fun _ _ q => by rw [d] at q; cases q) (fun _ q => by rw [d] at q; cases q)
  exact ⟨_, e', c, n, d⟩
theorem IsPair.step {h h' : Heap} {v : Value} {a b : List Nat} (x : IsPair h v a b) (k : Step h h') : IsPair h' v a b := by
  obtain ⟨p, t, u, e, y⟩ := x
  exact ⟨p, t, u, e, IsTup.step y k⟩
theorem PairsAre.step {h h' : Heap} (k : Step h h') : ∀ {vs : List Value} {ps : List (List Nat × List Nat)}, PairsAre h vs ps → PairsAre h' vs ps
  | [], [], _ => trivial
  | _ :: _, _ :: _, ⟨x, y⟩ => ⟨x.step k, y.step k⟩
theorem Rv.step {h h' : Heap} (k : Step h h') : ∀ {a : AV} {v : Value}, Rv h a v → Rv h' a v
  | .none, _, e => e | .bool _, _, e => e | .int _, _, e => e | .str _, _, e => e | .val _, _, e => e
  | .strs _, _, ⟨a, vs, e, x, y⟩ => ⟨a, vs, e, IsList.step x k, y⟩
  | .ints _, _, ⟨a, vs, e, x, y⟩ => ⟨a, vs, e, IsList.step x k, y⟩
  | .pairs _, _, ⟨a, vs, e, x, y⟩ => ⟨a, vs, e, IsList.step x k, y.step k⟩
  | .pair _ _, _, e => IsPair.step e k

noncomputable def EntsR (P : Params) (h : Heap) : List (Str × AV) → List DictEntry → Prop
  | [], [] => True
  | (n, a) :: r, e :: es => (∃ t, e.key = .str n t) ∧ e.hash = PyData.keyHash P n ∧ Rv h a e.val ∧ EntsR P h r es
  | _, _ => False
theorem EntsR.step {P : Params} {h h' : Heap} (k : Step h h') : ∀ {fl : List (Str × AV)} {es : List DictEntry}, EntsR P h fl es → EntsR P h' fl es
  | [], [], _ => trivial
  | _ :: _, _ :: _, ⟨x, y, z, r⟩ => ⟨x, y, z.step k, r.step k⟩
  | [], _ :: _, x => x.elim
  | _ :: _, [], x => x.elim
def DictAt (P : Params) (h : Heap) (dx : Addr) (fl : List (Str × AV)) : Prop :=
  ∃ es n sl, h.get? dx = some ⟨.type "dict", none, .dict (List.toArray es) n, sl⟩ ∧ EntsR P h fl es

structure Fn where
  q : Str
  sc : Scope
  a : Addr
  cd : Value
  rm : Nat
structure Cx where
  fn : Fn
  B : Heap
  N : Heap
  L : Addr
  outer : List Env
noncomputable def Cx.env (g : Cx) : Env := envOf g.fn.q g.fn.sc g.L g.fn.a g.fn.cd
structure St where
  loc : List (Str × AV)
  ob : Option (Addr × Addr) := none
  fl : List (Str × AV) := []
  ml : Option (Str × List (List Nat)) := none
structure Wx where
  w : World
  v : Obj
  d : Obj
  os : OsState
  sets : Sets w v d
noncomputable abbrev Wx.K (W : Wx) : Frag := KF W.w.params W.v W.d
noncomputable abbrev Wx.M (W : Wx) : Model := model PW W.w
noncomputable abbrev Wx.H (W : Wx) : Heap := (fEnd W.w W.v W.d W.os).heap

def ObR (W : Wx) (g : Cx) (σ : St) (h : Heap) : Prop := match σ.ob with
  | none => True
  | some (x, dx) => (∃ sl, h.get? x = some ⟨.ref 674, some dx, .plain, sl⟩) ∧ DictAt W.w.params h dx σ.fl ∧ g.B.get? dx = none ∧ (∀ o, g.N.get? dx = some o → ∃ vs, o.data = .fields vs) ∧ dx ≠ g.L
def MlR (g : Cx) (σ : St) (m : Str → Option Value) (h : Heap) : Prop := match σ.ml with
  | none => True
  | some (x, ls) => ∃ a vs, m x = some (.ref a) ∧ h.IsList a (List.toArray vs) ∧ StrsAre vs (ls.map sx) ∧ g.B.get? a = none ∧ (∀ o, g.N.get? a = some o → ∃ vs, o.data = .fields vs) ∧ ∃ o, h.get? a = some o ∧ o.dict = none
def Loc (σ : St) (m : Str → Option Value) (h : Heap) : Prop := ∀ x a, σ.loc.lookup x = some a → ∃ u, m x = some u ∧ Rv h a u

structure In (W : Wx) (g : Cx) (A : Around) (σ : St) (S : Shared) : Prop where
  fr : A.frames = some (g.env :: g.outer)
  hd : A.handled = none
  dp : A.depth + 10 * g.fn.rm ≤ 900
  un : A.units + 50 * g.fn.rm ≤ 5000
  sk : g.fn.sc.kind = .function
  bs : ∀ b o, W.H.get? b = some o → g.B.get? b = some o
  st : g.B.StaysIn S.heap
  up : ∀ b o, g.N.get? b = some o → (∀ vs, o.data ≠ .fields vs) → ∃ sl, S.heap.get? b = some { o with slots := sl }
  nl : g.N.get? g.L = none
  ff : S.heap.FunFrames g.B (g.env :: g.outer)
  fd : ∀ b ∈ (g.env :: g.outer).filterMap (·.frame), ∃ o es n, S.heap.get? b = some o ∧ o.data = .dict es n
  lo : ∃ m, S.heap.Ns g.L m ∧ Loc σ m S.heap ∧ MlR g σ m S.heap
  ob : ObR W g σ S.heap
  gens : S.gens = #[]
  os : S.os = W.os

theorem In.k {W : Wx} {g : Cx} {A : Around} {σ : St} {S : Shared} (I : In W g A σ S) : W.K.In S.heap := fun b o e => I.st b o (I.bs b o (kf_in W.sets W.os b o e))
theorem Wx.ground (W : Wx) : ∃ mg mb, TopRead QV (looseW QV looseV) mg mb W.H := by
  obtain ⟨G, _⟩ := ground_of_open (w := W.w) (q := QV) (loose := looseV) (XP := fun _ _ => True) (fun _ _ => trivial) (by kernel_rfl) (H.seen_end' W.sets W.os)
  exact ⟨_, _, topRead_of G.T⟩
theorem In.top {W : Wx} {g : Cx} {A : Around} {σ : St} {S : Shared} (I : In W g A σ S) : ∃ mg mb, TopRead QV (looseW QV looseV) mg mb S.heap := by
  obtain ⟨mg, mb, T⟩ := W.ground
  exact ⟨mg, mb, T.keeps fun b o e => I.st b o (I.bs b o e)⟩

theorem DictAt.slots {P : Params} {h h' : Heap} {dx : Addr} {fl : List (Str × AV)} (x : DictAt P h dx fl) (k : h.UpToSlots h') : DictAt P h' dx fl := by
  obtain ⟨es, n, sl, e, r⟩ := x
  obtain ⟨sl', e'⟩ := k dx _ e (fun vs q => by cases q)
  exact ⟨es, n, sl', e', r.step (.of_slots k)⟩
theorem DictAt.at {P : Params} {h h' : Heap} {dx : Addr} {fl : List (Str × AV)} (x : DictAt P h dx fl) (k : Step h h') (e : h'.get? dx = h.get? dx) : DictAt P h' dx fl := by
  obtain ⟨es, n, sl, e', r⟩ := x
  exact ⟨es, n, sl, e.trans e', r.step k⟩
theorem ObR.slots {W : Wx} {g : Cx} {σ : St} {h h' : Heap} (x : ObR W g σ h) (k : h.UpToSlots h') : ObR W g σ h' := by
  unfold ObR at x ⊢
  split at x
  · trivial
  · obtain ⟨⟨sl, e⟩, r, n⟩ := x
    obtain ⟨sl', e'⟩ := k _ _ e (fun vs q => by cases q)
    exact ⟨⟨sl', e'⟩, r.slots k, n⟩
theorem MlR.step {g : Cx} {σ : St} {m : Str → Option Value} {h h' : Heap} (x : MlR g σ m h) (k : Step h h') : MlR g σ m h' := by
  unfold MlR at x ⊢
  split at x
  · trivial
  · obtain ⟨a, vs, e1, e2, e3, e4, e5, o, e6, e7⟩ := x
    obtain ⟨o2, f1, _, n, f2⟩ := id e2
    rw [e6] at f1; cases f1
    obtain ⟨sl, e8⟩ := k a o e6 (fun _ _ q => by rw [f2] at q; cases q) (fun _ q => by rw [f2] at q; cases q)
    exact ⟨a, vs, e1, IsList.step e2 k, e3, e4, e5, _, e8, e7⟩
theorem Loc.step {σ : St} {m : Str → Option Value} {h h' : Heap} (x : Loc σ m h) (k : Step h h') : Loc σ m h' := fun y a e => let ⟨u, e1, e2⟩ := x y a e; ⟨u, e1, e2.step k⟩
theorem In.slots {W : Wx} {g : Cx} {A : Around} {σ : St} {S : Shared} {h' : Heap} (I : In W g A σ S) (k : S.heap.UpToSlots h') (st : g.B.StaysIn h') (ff : h'.FunFrames g.B (g.env :: g.outer)) : In W g A σ { S with heap := h' } := by
  obtain ⟨m, hn, hl, hm⟩ := I.lo
  have kk := Step.of_slots k
  have up : ∀ b o, g.N.get? b = some o → (∀ vs, o.data ≠ .fields vs) → ∃ sl, h'.get? b = some { o with slots := sl } := fun b o e n =>
    let ⟨sl, e1⟩ := I.up b o e n
    let ⟨sl2, e2⟩ := k b { o with slots := sl } e1 n
    ⟨sl2, e2⟩
  have fd : ∀ b ∈ (g.env :: g.outer).filterMap (·.frame), ∃ o es n, h'.get? b = some o ∧ o.data = .dict es n := fun b hb =>
    let ⟨o, es, n, e1, e2⟩ := I.fd b hb
    let ⟨sl, e3⟩ := k b o e1 (fun vs q => by rw [e2] at q; cases q)
    ⟨_, es, n, e3, e2⟩
  exact { I with st := st, ff := ff, lo := ⟨m, k.ns hn, hl.step kk, hm.step kk⟩, ob := I.ob.slots k, up := up, fd := fd }
theorem FunFrames.keeps {h h' base : Heap} {l : List Env} (hl : h.FunFrames base l) (k : ∀ b o, h.get? b = some o → h'.get? b = some o) : h'.FunFrames base l :=
  hl.of_keeps fun b o e _ => ⟨o, k b o e, rfl⟩
theorem In.grows {W : Wx} {g : Cx} {A : Around} {σ : St} {S S' : Shared} (I : In W g A σ S) (k : ∀ b o, S.heap.get? b = some o → S'.heap.get? b = some o) (hg : S'.gens = S.gens) (ho : S'.os = S.os) : In W g A σ S' := by
  obtain ⟨h', g', d', t', o'⟩ := S'
  dsimp only at hg ho k
  have I' := I.slots (.of_keeps k) (fun b o e => k b o (I.st b o e)) (FunFrames.keeps I.ff k)
  exact { I' with gens := hg.trans I.gens, os := ho.trans I.os }
theorem In.toks {W : Wx} {g : Cx} {A : Around} {σ : St} {S : Shared} (I : In W g A σ S) (t : Nat) : In W g A σ { S with toks := t } := I.grows (fun _ _ e => e) rfl rfl
theorem In.drop {W : Wx} {g : Cx} {A : Around} {σ : St} {S : Shared} {l : List (Str × AV)} (I : In W g A σ S) (h : ∀ x a, l.lookup x = some a → σ.loc.lookup x = some a) : In W g A { σ with loc := l } S := by
  obtain ⟨m, hn, hl, hm⟩ := I.lo
  exact { I with lo := ⟨m, hn, fun x a e => hl x a (h x a e), hm⟩, ob := I.ob }

inductive AF where
  | next | brk | cont | ret (a : AV) | exc (k : Bool)
noncomputable def FlR (h : Heap) : AF → Flow → Prop
  | .next, f => f = .next
  | .brk, f => f = .brk
  | .cont, f => f = .cont
  | .ret a, f => ∃ v, f = .ret v ∧ Rv h a v
  | .exc _, _ => False
noncomputable def labOf (k : Bool) : Addr := if k then 699 else 686
def ExcAt (g : Cx) (e : Addr) (k : Bool) (h : Heap) : Prop := g.B.get? e = none ∧
  ((∃ t, h.get? e = some { cls := .ref (labOf k), data := .fields #[.ref t, .none, .none, .none, .bool false, .none] }) ∨ ∃ a0, h.TracedAtW g.B e (.ref (labOf k)) a0 (rawInt g.L))

section
variable (W : Wx) (fn : Fn)
structure EV (e : Expr) (σ : St) (Q : AV → St → Prop) : Prop where
  run : ∀ (g : Cx) (A : Around) (S : Shared) (P : Value → Shared → Prop) (E : Value → Shared → Prop), g.fn = fn → In W g A σ S →
    (∀ u S' a σ', Q a σ' → In W g A σ' S' → Rv S'.heap a u → Step S.heap S'.heap → P u S') → wpAny W.M A (eval e g.env) P E S
structure TR (e : Expr) (σ : St) (Q : Bool → St → Prop) : Prop where
  run : ∀ (g : Cx) (A : Around) (S : Shared) (P : Bool → Shared → Prop) (E : Value → Shared → Prop), g.fn = fn → In W g A σ S →
    (∀ b S' σ', Q b σ' → In W g A σ' S' → Step S.heap S'.heap → P b S') → wpAny W.M A (isTrue e g.env (eval e g.env)) P E S
structure EX (ss : List Stmt) (σ : St) (Q : AF → St → Prop) : Prop where
  run : ∀ (g : Cx) (A : Around) (S : Shared) (P : Flow → Shared → Prop) (E : Value → Shared → Prop), g.fn = fn → In W g A σ S →
    (∀ f S' fl σ', Q fl σ' → In W g A σ' S' → FlR S'.heap fl f → P f S') →
    (∀ e S' k σ', Q (.exc k) σ' → In W g A σ' S' → ExcAt g e k S'.heap → E (.ref e) S') → wpAny W.M A (execs ss g.env) P E S
structure EX1 (s : Stmt) (σ : St) (Q : AF → St → Prop) : Prop where
  run : ∀ (g : Cx) (A : Around) (S : Shared) (P : Flow → Shared → Prop) (E : Value → Shared → Prop), g.fn = fn → In W g A σ S →
    (∀ f S' fl σ', Q fl σ' → In W g A σ' S' → FlR S'.heap fl f → P f S') →
    (∀ e S' k σ', Q (.exc k) σ' → In W g A σ' S' → ExcAt g e k S'.heap → E (.ref e) S') → wpAny W.M A (exec s g.env) P E S
end
end
noncomputable section
open PySem PySem.W PySem.Calls PyProof.Rows
open H (Sets fEnd KF kf_in QV looseV PW)
theorem ifP {c : Prop} [Decidable c] {a b : Prop} (h : c) (k : a) : if c then a else b := by rw [if_pos h]; exact k
theorem ifN {c : Prop} [Decidable c] {a b : Prop} (h : ¬c) (k : b) : if c then a else b := by rw [if_neg h]; exact k
section
variable (W : Wx) (fn : Fn)
abbrev qS (ss : List Stmt) (Q : AF → St → Prop) (f : AF) (σ : St) : Prop := match f with | .next => EX W fn ss σ Q | f => Q f σ
abbrev qI (b o : List Stmt) (Q : AF → St → Prop) (c : Bool) (σ : St) : Prop := if c then EX W fn b σ Q else EX W fn o σ Q
abbrev qR (Q : AF → St → Prop) (a : AV) (σ : St) : Prop := Q (.ret a) σ
abbrev qX (Q : AF → St → Prop) (a : AV) (σ : St) : Prop := Q .next σ
abbrev qNot (Q : Bool → St → Prop) (c : Bool) (σ : St) : Prop := Q (!c) σ
abbrev qOr (y : Expr) (Q : Bool → St → Prop) (c : Bool) (σ : St) : Prop := if c then Q true σ else TR W fn y σ Q
abbrev qAnd (y : Expr) (Q : Bool → St → Prop) (c : Bool) (σ : St) : Prop := if c then TR W fn y σ Q else Q false σ
abbrev qN (P : St → Prop) (Q : AF → St → Prop) (f : AF) (σ : St) : Prop := match f with | .next => P σ | f => Q f σ
abbrev qT (b : Bool) (Q : AF → St → Prop) (f : AF) (σ : St) : Prop := match f with | .exc k => k = b ∧ Q .next σ | f => Q f σ
end
section
variable {W : Wx} {fn : Fn} {σ : St}

theorem EX.nil {Q : AF → St → Prop} (h : Q .next σ) : EX W fn [] σ Q := ⟨fun g A S P E hg I k _ => wpAny_execs_nil (k _ _ _ _ h I rfl)⟩
theorem EX.cons {s : Stmt} {ss : List Stmt} {Q : AF → St → Prop} (h : EX1 W fn s σ (qS W fn ss Q)) : EX W fn (s :: ss) σ Q := by
  refine ⟨fun g A S P E hg I k ke => ?_⟩
  refine wpAny_execs_cons (h.run g A S _ E hg I (fun f S' fl σ' hq I' hf => ?_) (fun e S' kk σ' hq I' hx => ke e S' kk σ' hq I' hx))
  cases fl with
  | next => cases hf; exact hq.run g A S' P E hg I' k ke
  | brk => cases hf; exact k _ _ .brk _ hq I' rfl
  | cont => cases hf; exact k _ _ .cont _ hq I' rfl
  | ret a => obtain ⟨v, rfl, r⟩ := hf; exact k _ _ (.ret a) _ hq I' ⟨v, rfl, r⟩
  | exc k => exact hf.elim
theorem EX.mono {ss : List Stmt} {Q Q' : AF → St → Prop} (h : EX W fn ss σ Q) (k : ∀ f σ', Q f σ' → Q' f σ') : EX W fn ss σ Q' := ⟨fun g A S P E hg I k1 k2 =>
  h.run g A S P E hg I (fun f S' fl σ' hq => k1 f S' fl σ' (k _ _ hq)) fun e S' kk σ' hq => k2 e S' kk σ' (k _ _ hq)⟩
theorem EV.mono {e : Expr} {Q Q' : AV → St → Prop} (h : EV W fn e σ Q) (k : ∀ f σ', Q f σ' → Q' f σ') : EV W fn e σ Q' := ⟨fun g A S P E hg I k1 =>
  h.run g A S P E hg I fun u S' a σ' hq => k1 u S' a σ' (k _ _ hq)⟩
theorem TR.mono {e : Expr} {Q Q' : Bool → St → Prop} (h : TR W fn e σ Q) (k : ∀ f σ', Q f σ' → Q' f σ') : TR W fn e σ Q' := ⟨fun g A S P E hg I k1 =>
  h.run g A S P E hg I fun u S' σ' hq => k1 u S' σ' (k _ _ hq)⟩
theorem EX1.pass {p : Pos} {Q : AF → St → Prop} (h : Q .next σ) : EX1 W fn (.Pass p) σ Q := ⟨fun g A S P E hg I k _ => wpAny_Pass (k _ _ .next _ h I rfl)⟩
theorem EX1.brk {p : Pos} {Q : AF → St → Prop} (h : Q .brk σ) : EX1 W fn (.Break p) σ Q := ⟨fun g A S P E hg I k _ => wpAny_Break (k _ _ .brk _ h I rfl)⟩
theorem EX1.cont {p : Pos} {Q : AF → St → Prop} (h : Q .cont σ) : EX1 W fn (.Continue p) σ Q := ⟨fun g A S P E hg I k _ => wpAny_Continue (k _ _ .cont _ h I rfl)⟩
theorem EX1.if_ {t : Expr} {b o : List Stmt} {p : Pos} {Q : AF → St → Prop} (h : TR W fn t σ (qI W fn b o Q)) : EX1 W fn (.If t b o p) σ Q := by
  refine ⟨fun g A S P E hg I k ke => ?_⟩
  refine wpAny_If (h.run g A S _ E hg I fun c S' σ' hq I' hs => ?_)
  cases c with
  | true => exact hq.run g A S' P E hg I' k ke
  | false => exact hq.run g A S' P E hg I' k ke
theorem EX1.ret {e : Expr} {p : Pos} {Q : AF → St → Prop} (h : EV W fn e σ (qR Q)) : EX1 W fn (.Return (some e) p) σ Q := ⟨fun g A S P E hg I k _ =>
  wpAny_Return_some (h.run g A S _ E hg I fun u S' a σ' hq I' r _ => k _ _ (.ret a) _ hq I' ⟨u, rfl, r⟩)⟩
theorem EX1.ret0 {p : Pos} {Q : AF → St → Prop} (h : Q (.ret .none) σ) : EX1 W fn (.Return none p) σ Q := ⟨fun g A S P E hg I k _ => wpAny_Return_none (k _ _ (.ret .none) _ h I ⟨_, rfl, rfl⟩)⟩

theorem EV.name {x : Str} {p : Pos} {a : AV} {Q : AV → St → Prop} (hl : σ.loc.lookup x = some a) (h : Q a σ) (hx : fn.sc.names.lookup x = some .local := by rfl) (hd : (x == ("__debug__" : Str)) = false := by decide) : EV W fn (.Name x p) σ Q := by
  refine ⟨fun g A S P E hg I k => ?_⟩
  subst hg
  obtain ⟨m, hn, hlo, _⟩ := I.lo
  obtain ⟨u, e, r⟩ := hlo x a hl
  exact wpAny_Name (wpAny_loadName_local (env := g.env) I.sk hx hn e (k _ _ _ _ h I r (.refl _))) hd
theorem EV.mlist {x : Str} {p : Pos} {ls : List (List Nat)} {Q : AV → St → Prop} (hl : σ.ml = some (x, ls)) (h : Q (.strs ls) σ) (hx : fn.sc.names.lookup x = some .local := by rfl) (hd : (x == ("__debug__" : Str)) = false := by decide) : EV W fn (.Name x p) σ Q := by
  refine ⟨fun g A S P E hg I k => ?_⟩
  subst hg
  obtain ⟨m, hn, hlo, hm⟩ := I.lo
  unfold MlR at hm
  rw [hl] at hm
  obtain ⟨a, vs, e, e2, e3, _⟩ := hm
  exact wpAny_Name (wpAny_loadName_local (env := g.env) I.sk hx hn e (k _ _ _ _ h I ⟨a, vs, rfl, e2, e3⟩ (.refl _))) hd
theorem EV.glob {x : Str} {p : Pos} {v : Value} {Q : AV → St → Prop} (he : nsIn W.K mainGlobals x = some (some v)) (h : Q (.val v) σ) (hk : fn.sc.kind = .function := by rfl) (hx : fn.sc.names.lookup x = some .globalImplicit := by rfl) (hd : (x == ("__debug__" : Str)) = false := by decide) : EV W fn (.Name x p) σ Q := by
  refine ⟨fun g A S P E hg I k => ?_⟩
  subst hg
  obtain ⟨mg, mb, T⟩ := I.top
  exact Calls.Name_function_global (env := g.env) hk hx (Calls.loadGlobal_global (env := g.env) T.g (mg_of I.k T.g he) (k _ _ _ _ h I rfl (.refl _))) hd
theorem EV.blt {x : Str} {p : Pos} {v : Value} {Q : AV → St → Prop} (he : nsIn W.K mainGlobals x = some none) (hv : bootBuiltins x = some v) (h : Q (.val v) σ) (hn : x ≠ "__name__" := by decide) (hk : fn.sc.kind = .function := by rfl) (hx : fn.sc.names.lookup x = some .globalImplicit := by rfl) (hd : (x == ("__debug__" : Str)) = false := by decide) : EV W fn (.Name x p) σ Q := by
  refine ⟨fun g A S P E hg I k => ?_⟩
  subst hg
  obtain ⟨mg, mb, T⟩ := I.top
  exact Calls.Name_function_global (env := g.env) hk hx (Calls.loadGlobal_builtin (env := g.env) T.g (mg_none_of I.k T.g he) T.b ((T.builtins x hn).trans hv) (k _ _ _ _ h I rfl (.refl _))) hd

theorem EV.cint {i : Int} {kd p} {Q : AV → St → Prop} (h : Q (.int i) σ) : EV W fn (.Constant (.int i) kd p) σ Q := ⟨fun g A S P E hg I k =>
  wpAny_Constant_int (k _ _ _ _ h (I.toks _) ⟨_, rfl⟩ (.refl _))⟩
theorem EV.cstr {x : Str} {kd p} {Q : AV → St → Prop} (h : Q (.str x.cps.toList) σ) : EV W fn (.Constant (.str x) kd p) σ Q := ⟨fun g A S P E hg I k =>
  wpAny_Constant_str (k _ _ _ _ h (I.toks _) ⟨_, rfl⟩ (.refl _))⟩
theorem EV.cbool {b : Bool} {kd p} {Q : AV → St → Prop} (h : Q (.bool b) σ) : EV W fn (.Constant (.bool b) kd p) σ Q := ⟨fun g A S P E hg I k =>
  wpAny_Constant_bool (k _ _ _ _ h I rfl (.refl _))⟩

noncomputable def cmpI (a b : Int) : CmpOp → Option Bool
  | .Eq => some (a == b)
  | .NotEq => some (a != b)
  | .Lt => some (decide (a < b))
  | .LtE => some (decide (a ≤ b))
  | .Gt => some (decide (b < a))
  | .GtE => some (decide (b ≤ a))
  | _ => none
noncomputable def cmpS (a b : List Nat) : CmpOp → Option Bool
  | .Eq => some (a == b)
  | .NotEq => some (a != b)
  | _ => none
noncomputable def cmpL (a : List Nat) (l : List (List Nat)) : CmpOp → Option Bool
  | .In => some (l.contains a)
  | .NotIn => some (!l.contains a)
  | _ => none
noncomputable def cmpA (op : CmpOp) (a b : AV) : Option Bool := match a with
  | .int a => match b with
    | .int b => cmpI a b op
    | _ => none
  | .str a => match b with
    | .str b => cmpS a b op
    | .strs l => cmpL a l op
    | _ => none
  | _ => none
theorem sx_beq (a b : List Nat) : (sx a == sx b) = (a == b) := by
  rw [Bool.eq_iff_iff, beq_iff_eq, beq_iff_eq]
  constructor
  · intro h
    injection h with h
    injection h
  · rintro rfl; rfl
theorem any_sx (l : List (List Nat)) (a : List Nat) : ((l.map sx).any (· == sx a)) = l.contains a := by
  induction l with
  | nil => rfl
  | cons b r ih =>
    rw [List.map_cons, List.any_cons, ih, sx_beq, List.contains_cons]
    congr 1
    rw [Bool.eq_iff_iff, beq_iff_eq, beq_iff_eq]
    exact eq_comm
theorem cmp_ok {op : CmpOp} {a b : AV} {c : Bool} {u v : Value} {A : Around} {S : Shared} {P E : Value → Shared → Prop} (hc : cmpA op a b = some c) (ra : Rv S.heap a u) (rb : Rv S.heap b v)
    (h : P (.bool c) S) : wpAny W.M A (compareOp op u v) P E S := by
  cases a <;> first | (cases hc; done) | skip
  · cases b <;> first | (cases hc; done) | skip
    obtain ⟨t, rfl⟩ := ra; obtain ⟨t', rfl⟩ := rb
    cases op with
    | Eq => cases hc; exact PyProof.Rows.eq_int h
    | NotEq => cases hc; exact PyProof.Rows.ne_int h
    | Lt => cases hc; exact PyProof.Rows.lt_int h
    | LtE => cases hc; exact PyProof.Rows.le_int h
    | Gt => cases hc; exact PyProof.Rows.gt_int h
    | GtE => cases hc; exact PyProof.Rows.ge_int h
    | _ => cases hc
  · cases b <;> first | (cases hc; done) | skip
    · obtain ⟨t, rfl⟩ := ra; obtain ⟨t', rfl⟩ := rb
      cases op with
      | Eq => cases hc; exact PyProof.Rows.eq_str (by rw [sx_beq]; exact h)
      | NotEq => cases hc; exact PyProof.Rows.ne_str (by rw [show (sx _ != sx _) = !(sx _ == sx _) from rfl, sx_beq]; exact h)
      | _ => cases hc
    · obtain ⟨t, rfl⟩ := ra; obtain ⟨a, vs, rfl, hl, hs⟩ := rb
      cases op with
      | In => cases hc; exact PyProof.Rows.in_list_strs hl hs (by rw [any_sx]; exact h)
      | NotIn => cases hc; exact PyProof.Rows.notin_list_strs hl hs (by rw [any_sx]; exact h)
      | _ => cases hc
abbrev qK (op : CmpOp) (a : AV) (Q : Bool → St → Prop) (b : AV) (σ : St) : Prop := ∃ c, cmpA op a b = some c ∧ Q c σ
abbrev qC (W : Wx) (fn : Fn) (op : CmpOp) (r : Expr) (Q : Bool → St → Prop) (a : AV) (σ : St) : Prop := EV W fn r σ (qK op a Q)
abbrev qKe (op : CmpOp) (a : AV) (Q : AV → St → Prop) (b : AV) (σ : St) : Prop := ∃ c, cmpA op a b = some c ∧ Q (.bool c) σ
abbrev qCe (W : Wx) (fn : Fn) (op : CmpOp) (r : Expr) (Q : AV → St → Prop) (a : AV) (σ : St) : Prop := EV W fn r σ (qKe op a Q)
theorem EV.cmp {l r : Expr} {op : CmpOp} {p : Pos} {Q : AV → St → Prop} (h : EV W fn l σ (qCe W fn op r Q))
    (hm : behindInMarks op r = false := by with_unfolding_all rfl) : EV W fn (.Compare l [op] [r] p) σ Q := by
  refine ⟨fun g A S P E hg I k => ?_⟩
  refine wpAny_Compare1 (h.run g A S _ E hg I fun u S1 a σ1 h1 I1 r1 s1 => h1.run g A S1 _ E hg I1 fun v S2 b σ2 h2 I2 r2 s2 => ?_) hm
  obtain ⟨c, e, hq⟩ := h2
  exact cmp_ok e (r1.step s2) r2 (k _ _ _ _ hq I2 rfl (s1.trans s2))
theorem TR.cmp {l r : Expr} {op : CmpOp} {p : Pos} {Q : Bool → St → Prop} (h : EV W fn l σ (qC W fn op r Q))
    (hm : behindInMarks op r = false := by with_unfolding_all rfl) : TR W fn (.Compare l [op] [r] p) σ Q := by
  refine ⟨fun g A S P E hg I k => ?_⟩
  refine wpAny_isTrue_Compare1 (h.run g A S _ E hg I fun u S1 a σ1 h1 I1 r1 s1 => h1.run g A S1 _ E hg I1 fun v S2 b σ2 h2 I2 r2 s2 => ?_) hm
  obtain ⟨c, e, hq⟩ := h2
  exact cmp_ok e (r1.step s2) r2 (wpAny_truthy_bool (k _ _ _ hq I2 (s1.trans s2)))
theorem TR.not {x : Expr} {p : Pos} {Q : Bool → St → Prop} (h : TR W fn x σ (qNot Q)) : TR W fn (.UnaryOp .Not x p) σ Q := ⟨fun g A S P E hg I k =>
  isTrue_not (h.run g A S _ E hg I fun c S' σ' hq I' s => k _ _ _ hq I' s)⟩
theorem TR.or {x y : Expr} {p : Pos} {Q : Bool → St → Prop} (h : TR W fn x σ (qOr W fn y Q)) : TR W fn (.BoolOp .Or [x, y] p) σ Q := by
  refine ⟨fun g A S P E hg I k => ?_⟩
  refine isTrue_or (h.run g A S _ E hg I fun c S' σ' hq I' s => ?_)
  cases c with
  | true => exact k _ _ _ hq I' s
  | false =>
    refine isTrue_or (hq.run g A S' _ E hg I' fun c S2 σ2 hq2 I2 s2 => ?_)
    cases c with
    | true => exact k _ _ _ hq2 I2 (s.trans s2)
    | false => exact isTrue_or_nil (k _ _ _ hq2 I2 (s.trans s2))
theorem TR.and {x y : Expr} {p : Pos} {Q : Bool → St → Prop} (h : TR W fn x σ (qAnd W fn y Q)) : TR W fn (.BoolOp .And [x, y] p) σ Q := by
  refine ⟨fun g A S P E hg I k => ?_⟩
  refine isTrue_and (h.run g A S _ E hg I fun c S' σ' hq I' s => ?_)
  cases c with
  | false => exact k _ _ _ hq I' s
  | true =>
    refine isTrue_and (hq.run g A S' _ E hg I' fun c S2 σ2 hq2 I2 s2 => ?_)
    cases c with
    | false => exact k _ _ _ hq2 I2 (s.trans s2)
    | true => exact isTrue_and_nil (k _ _ _ hq2 I2 (s.trans s2))
noncomputable def truA : AV → Option Bool
  | .bool b => some b
  | .none => some false
  | .int i => some (i != 0)
  | _ => Option.none
theorem tru_ok {a : AV} {c : Bool} {u : Value} {A : Around} {S : Shared} {P : Bool → Shared → Prop} {E : Value → Shared → Prop} (hc : truA a = some c) (ra : Rv S.heap a u) (h : P c S) : wpAny W.M A (truthy u) P E S := by
  unfold truA at hc
  split at hc <;> first | (cases hc; done) | skip
  all_goals injection hc with hc; subst hc
  · cases ra; exact wpAny_truthy_bool h
  · cases ra; exact truthy_none h
  · obtain ⟨t, rfl⟩ := ra; exact truthy_int h
abbrev qP (Q : Bool → St → Prop) (a : AV) (σ : St) : Prop := ∃ c, truA a = some c ∧ Q c σ
theorem TR.plain {e : Expr} {Q : Bool → St → Prop} (h : EV W fn e σ (qP Q)) (he : ∀ env, isTrue e env (eval e env) = (do let v ← eval e env; standAt e.pos; holding [v] (truthy v)) := by intro env; rfl) : TR W fn e σ Q := by
  refine ⟨fun g A S P E hg I k => ?_⟩
  refine isTrue_plain (h.run g A S _ E hg I fun u S1 a σ1 h1 I1 r1 s1 => ?_) (he _)
  obtain ⟨c, e1, hq⟩ := h1
  exact tru_ok e1 r1 (k _ _ _ hq I1 s1)
end
end
noncomputable section
open PySem PySem.W PySem.Calls PyProof.Rows Builtin Builtin.ObjectAttr Builtin.Getset_descriptor
open H (Sets fEnd KF kf_in QV looseV PW)

theorem FunFrames.of {h h' base : Heap} (k : ∀ b o, h.get? b = some o → (∀ vs, o.data ≠ .fields vs) → ∃ o', h'.get? b = some o' ∧ ∀ vs, o'.data ≠ .fields vs) : ∀ {l : List Env}, h.FunFrames base l → h'.FunFrames base l
  | [], _ => trivial
  | _ :: _, ⟨hk, ⟨L, o, hf, hn, ho, hd⟩, hr⟩ => by
    obtain ⟨o', ho', hd'⟩ := k L o ho hd
    exact ⟨hk, ⟨L, o', hf, hn, ho', hd'⟩, FunFrames.of k hr⟩
theorem In.bl {W : Wx} {g : Cx} {A : Around} {σ : St} {S : Shared} (I : In W g A σ S) : g.B.get? g.L = none := by
  obtain ⟨_, ⟨L', _, hf, hn', _⟩, _⟩ := I.ff
  obtain rfl : g.L = L' := Option.some.inj hf
  exact hn'
def Free (g : Cx) (σ : St) (b : Addr) : Prop := b = g.L ∨ ∃ x, σ.ob = some (x, b)
theorem Free.stepFrom {W : Wx} {g : Cx} {A : Around} {σ : St} {S : Shared} {h' : Heap} (I : In W g A σ S) (keep : ∀ b o, ¬ Free g σ b → S.heap.get? b = some o → h'.get? b = some o) : Step S.heap h' := fun b o e n1 n2 => by
  refine ⟨o.slots, keep b o (fun q => ?_) e⟩
  rcases q with rfl | ⟨x, q⟩
  · obtain ⟨m, ⟨oL, es, ep, hL, hd, _⟩, _⟩ := I.lo
    rw [e] at hL; cases hL; exact n1 _ _ hd
  · have hO := I.ob
    unfold ObR at hO
    rw [q] at hO
    obtain ⟨_, ⟨es, n, sl, hd, _⟩, _⟩ := hO
    rw [e] at hd; cases hd; exact n1 _ _ rfl
theorem In.upd {W : Wx} {g : Cx} {A : Around} {σ σ' : St} {S : Shared} {h' : Heap} {t : Nat} (I : In W g A σ S) (keep : ∀ b o, ¬ Free g σ b → S.heap.get? b = some o → h'.get? b = some o)
    (lo' : ∃ m, h'.Ns g.L m ∧ Loc σ' m h' ∧ MlR g σ' m h') (ob' : ObR W g σ' h') (e : σ'.ob = σ.ob) : In W g A σ' { S with heap := h', toks := t } := by
  have nb : ∀ b o, g.B.get? b = some o → ¬ Free g σ b := fun b o hb q => by
    rcases q with rfl | ⟨x, q⟩
    · rw [I.bl] at hb; cases hb
    · have hO := I.ob
      unfold ObR at hO
      rw [q] at hO
      obtain ⟨_, _, h1, _⟩ := hO
      rw [h1] at hb; cases hb
  have nn : ∀ b o, g.N.get? b = some o → (∀ vs, o.data ≠ .fields vs) → ¬ Free g σ b := fun b o hb n q => by
    rcases q with rfl | ⟨x, q⟩
    · rw [I.nl] at hb; cases hb
    · have hO := I.ob
      unfold ObR at hO
      rw [q] at hO
      obtain ⟨_, _, _, h1, _⟩ := hO
      obtain ⟨vs, hv⟩ := h1 o hb
      exact n vs hv
  refine { I with st := fun b o hb => keep b o (nb b o hb) (I.st b o hb), up := fun b o hb n => ?_, ff := FunFrames.of (fun b o hb n => ?_) I.ff, lo := lo', ob := ob', fd := fun b hb => ?_ }
  · obtain ⟨sl, h1⟩ := I.up b o hb n
    exact ⟨sl, keep b _ (nn b o hb n) h1⟩
  · by_cases q : Free g σ b
    · rcases q with rfl | ⟨x, q⟩
      · obtain ⟨m, ⟨oL, es, ep, hL, hd, _⟩, _⟩ := lo'
        exact ⟨oL, hL, fun vs z => by rw [hd] at z; cases z⟩
      · unfold ObR at ob'
        rw [e, q] at ob'
        obtain ⟨_, ⟨es, n, sl, hd, _⟩, _⟩ := ob'
        exact ⟨_, hd, fun vs z => by cases z⟩
    · exact ⟨o, keep b o q hb, n⟩

  · by_cases q : Free g σ b
    · rcases q with rfl | ⟨x, q⟩
      · obtain ⟨m, ⟨oL, es, ep, hL, hd, _⟩, _⟩ := lo'
        exact ⟨oL, es, ep, hL, hd⟩
      · unfold ObR at ob'
        rw [e, q] at ob'
        obtain ⟨_, ⟨es, n, sl, hd, _⟩, _⟩ := ob'
        exact ⟨_, _, _, hd, rfl⟩
    · obtain ⟨o, es, n, e1, e2⟩ := I.fd b hb
      exact ⟨o, es, n, keep b o q e1, e2⟩

theorem In.stored {W : Wx} {g : Cx} {A : Around} {σ : St} {S : Shared} {h' : Heap} {x : Str} {u : Value} {a : AV} {t : Nat} (I : In W g A σ S) (hml : ∀ ls, σ.ml ≠ some (x, ls))
    (r : Rv S.heap a u) {m : Str → Option Value} (hm : S.heap.Ns g.L m) (hlo : Loc σ m S.heap) (hmm : MlR g σ m S.heap) (hn : h'.Ns g.L (fun y => if y = x then some u else m y)) (hs : Heap.SameBut g.L S.heap h') :
    In W g A { σ with loc := (x, a) :: σ.loc } { S with heap := h', toks := t } := by
  have keep : ∀ b o, ¬ Free g σ b → S.heap.get? b = some o → h'.get? b = some o := fun b o q e => (hs.2 b fun z => q (.inl z)).trans e
  have k := Free.stepFrom I keep
  refine I.upd keep ⟨_, hn, fun y c e => ?_, ?_⟩ ?_ rfl
  · rw [List.lookup_cons] at e
    by_cases q : y = x
    · subst q
      rw [beq_self_eq_true] at e
      cases e
      exact ⟨u, if_pos rfl, r.step k⟩
    · rw [show (y == x) = false from beq_eq_false_iff_ne.mpr q] at e
      obtain ⟨v, e1, e2⟩ := hlo y c e
      exact ⟨v, (if_neg q).trans e1, e2.step k⟩
  · unfold MlR at hmm ⊢
    cases hq : σ.ml with
    | none => trivial
    | some p =>
      obtain ⟨y, ls⟩ := p
      rw [hq] at hmm
      obtain ⟨b, vs, e1, e2, e3, e4, e5, o, e6, e7⟩ := hmm
      obtain ⟨o2, f1, _, n, f2⟩ := id e2
      rw [e6] at f1; cases f1
      obtain ⟨sl, e8⟩ := k b o e6 (fun _ _ q => by rw [f2] at q; cases q) (fun _ q => by rw [f2] at q; cases q)
      exact ⟨b, vs, (if_neg (fun z => hml ls (by rw [hq, z]))).trans e1, IsList.step e2 k, e3, e4, e5, _, e8, e7⟩
  · have hO := I.ob
    unfold ObR at hO ⊢
    cases hq : σ.ob with
    | none => trivial
    | some p =>
      obtain ⟨y, dx⟩ := p
      rw [hq] at hO
      obtain ⟨⟨sl, e1⟩, d, r1, r2, r3⟩ := hO
      obtain ⟨sl', e1'⟩ := k _ _ e1 (fun _ _ z => by cases z) (fun _ z => by cases z)
      exact ⟨⟨sl', e1'⟩, d.at k (hs.2 dx r3), r1, r2, r3⟩
theorem EX1.assign {x : Str} {p p' : Pos} {e : Expr} {σ : St} {W : Wx} {fn : Fn} {Q : AF → St → Prop} (h : EV W fn e σ fun a σ' => (∀ ls, σ'.ml ≠ some (x, ls)) ∧ Q .next { σ' with loc := (x, a) :: σ'.loc })
    (hx : fn.sc.names.lookup x = some .local := by rfl) (hs : ∀ env, swapsWith e (some (.Name x p')) p.line env = pure false := by intro env; rfl) : EX1 W fn (.Assign [.Name x p'] e p) σ Q := by
  refine ⟨fun g A S P E hg I k ke => ?_⟩
  subst hg
  refine wpAny_Assign_Name (h.run g A S _ E rfl I fun u S1 a σ1 h1 I1 r1 s1 => ?_) (hs _)
  obtain ⟨m, hm, hlo, hmm⟩ := I1.lo
  refine wpAny_storeName_local (env := g.env) hx hm (fun h' hn hsb => ?_) (by show (g.fn.sc.kind == .class || (g.fn.sc.kind == .module && _)) = false; rw [I1.sk]; rfl)
  exact k _ _ .next _ h1.2 (I1.stored h1.1 r1 hm hlo hmm hn hsb) rfl

noncomputable def binI (a b : Int) : Operator → Option AV
  | .Add => some (.int (a + b))
  | .Sub => some (.int (a - b))
  | .RShift => if 0 ≤ b then some (.int (a.fdiv (2 ^ b.toNat))) else none
  | .Mod => if b ≠ 0 then some (.int (a.fmod b)) else none
  | _ => none
noncomputable def binS (a b : List Nat) : Operator → Option AV
  | .Add => if a.length + b.length ≤ 1000 then some (.str (a ++ b)) else none
  | _ => none
noncomputable def binA (op : Operator) (a b : AV) : Option AV := match a with
  | .int a => match b with
    | .int b => binI a b op
    | _ => none
  | .str a => match b with
    | .str b => binS a b op
    | _ => none
  | _ => none
theorem sx_append (a b : List Nat) : sx a ++ sx b = sx (a ++ b) := by
  show Str.mk _ = Str.mk _
  congr 1
  simp
theorem sx_length (a : List Nat) : (sx a).length = a.length := by simp [Str.length]
set_option tactic.hygienic true in
theorem bin_ok {W : Wx} {op : Operator} {a b c : AV} {u v : Value} {A : Around} {S : Shared} {P E : Value → Shared → Prop} (hc : binA op a b = some c) (ra : Rv S.heap a u) (rb : Rv S.heap b v)
    (h : ∀ z t, Rv S.heap c z → P z { S with toks := t }) : wpAny W.M A (binaryOp op u v) P E S := by
  cases a <;> first | (cases hc; done) | skip
  · cases b <;> first | (cases hc; done) | skip
    obtain ⟨t, rfl⟩ := ra; obtain ⟨t', rfl⟩ := rb
    change binI _ _ _ = _ at hc
    unfold binI at hc
    split at hc
    · cases hc; exact PyProof.Rows.add_int (h _ _ ⟨_, rfl⟩)
    · cases hc; exact PyProof.Rows.sub_int (h _ _ ⟨_, rfl⟩)
    · split at hc
      · rename_i hb; cases hc; exact PyProof.Rows.rshift_int hb (h _ _ ⟨_, rfl⟩)
      · cases hc
    · split at hc
      · rename_i hb; cases hc; exact PyProof.Rows.mod_int hb (h _ _ ⟨_, rfl⟩)
      · cases hc
    · cases hc
  · cases b <;> first | (cases hc; done) | skip
    change binS _ _ _ = _ at hc
    unfold binS at hc
    split at hc
    · split at hc
      · rename_i hb; obtain ⟨t, rfl⟩ := ra; obtain ⟨t', rfl⟩ := rb; cases hc
        exact PyProof.Rows.add_str (fun t tk => h _ _ ⟨t, by rw [sx_append]⟩) (by rw [sx_length, sx_length, sizeLine_eq]; omega)
      · cases hc
    · cases hc
abbrev qB1 (op : Operator) (a : AV) (Q : AV → St → Prop) (b : AV) (σ : St) : Prop := ∃ c, binA op a b = some c ∧ Q c σ
abbrev qB (W : Wx) (fn : Fn) (op : Operator) (r : Expr) (Q : AV → St → Prop) (a : AV) (σ : St) : Prop := EV W fn r σ (qB1 op a Q)
theorem EV.bin {W : Wx} {fn : Fn} {σ : St} {l r : Expr} {op : Operator} {p : Pos} {Q : AV → St → Prop} (h : EV W fn l σ (qB W fn op r Q)) : EV W fn (.BinOp l op r p) σ Q := by
  refine ⟨fun g A S P E hg I k => ?_⟩
  refine wpAny_BinOp (h.run g A S _ E hg I fun u S1 a σ1 h1 I1 r1 s1 => h1.run g A S1 _ E hg I1 fun v S2 b σ2 h2 I2 r2 s2 => ?_)
  obtain ⟨c, e, hq⟩ := h2
  exact bin_ok e (r1.step s2) r2 fun z t rz => k _ _ _ _ hq (I2.toks t) rz (s1.trans s2)
noncomputable def iopA : Operator → AV → AV → Option AV
  | .Add, .int a, .int b => some (.int (a + b))
  | .Sub, .int a, .int b => some (.int (a - b))
  | _, _, _ => none
theorem iop_ok {W : Wx} {op : Operator} {a b c : AV} {u v : Value} {A : Around} {S : Shared} {P E : Value → Shared → Prop} (hc : iopA op a b = some c) (ra : Rv S.heap a u) (rb : Rv S.heap b v)
    (h : ∀ z t, Rv S.heap c z → P z { S with toks := t }) : wpAny W.M A (inplaceOp op u v) P E S := by
  unfold iopA at hc
  split at hc
  · obtain ⟨t, rfl⟩ := ra; obtain ⟨t', rfl⟩ := rb; cases hc; exact PyProof.Rows.iadd_int (h _ _ ⟨_, rfl⟩)
  · obtain ⟨t, rfl⟩ := ra; obtain ⟨t', rfl⟩ := rb; cases hc; exact PyProof.Rows.isub_int (h _ _ ⟨_, rfl⟩)
  · cases hc
theorem EX1.aug {x : Str} {p p' : Pos} {op : Operator} {e : Expr} {σ : St} {W : Wx} {fn : Fn} {o : AV} {Q : AF → St → Prop} (hl : σ.loc.lookup x = some o)
    (h : EV W fn e σ fun a σ' => (∀ ls, σ'.ml ≠ some (x, ls)) ∧ ∃ c, iopA op o a = some c ∧ Q .next { σ' with loc := (x, c) :: σ'.loc })
    (hx : fn.sc.names.lookup x = some .local := by rfl) : EX1 W fn (.AugAssign (.Name x p') op e p) σ Q := by
  refine ⟨fun g A S P E hg I k ke => ?_⟩
  subst hg
  obtain ⟨m, hn, hlo, _⟩ := I.lo
  obtain ⟨u, eu, r⟩ := hlo x o hl
  refine wpAny_AugAssign_Name (wpAny_loadName_local (env := g.env) I.sk hx hn eu (h.run g A S _ E rfl I fun v S1 a σ1 h1 I1 r1 s1 => ?_))
  obtain ⟨h2, c, e1, hq⟩ := h1
  refine iop_ok e1 (r.step s1) r1 fun z t rz => ?_
  obtain ⟨m, hm, hlo, hmm⟩ := I1.lo
  refine wpAny_storeName_local (env := g.env) hx hm (fun h' hn hsb => ?_) (by show (g.fn.sc.kind == .class || (g.fn.sc.kind == .module && _)) = false; rw [I1.sk]; rfl)
  exact k _ _ .next _ hq (I1.stored h2 rz hm hlo hmm hn hsb) rfl
end
noncomputable section
open PySem PySem.W PySem.Calls PyProof.Rows Builtin Builtin.ObjectAttr Builtin.Getset_descriptor
open H (Sets fEnd KF kf_in QV looseV PW)

noncomputable def putF (n : Str) (a : AV) : List (Str × AV) → List (Str × AV)
  | [] => [(n, a)]
  | (m, b) :: r => if m = n then (m, a) :: r else (m, b) :: putF n a r

theorem str_isStr (m n : Str) (t : Tok) : (Value.str m t).isStr n = (m == n) := rfl
theorem ents_find {P : Params} {h : Heap} {name : Str} : ∀ {fl : List (Str × AV)} {es : List DictEntry}, EntsR P h fl es →
    (∀ c, fl.lookup name = some c → ∃ e, es.find? (·.key.isStr name) = some e ∧ Rv h c e.val) ∧ (fl.lookup name = none → es.find? (·.key.isStr name) = none)
  | [], [], _ => ⟨fun c e => (nomatch e), fun _ => rfl⟩
  | (n, a) :: r, e :: es, ⟨⟨t, hk⟩, _, hv, hr⟩ => by
    obtain ⟨i1, i2⟩ := ents_find (name := name) hr
    rw [List.lookup_cons, List.find?_cons, hk, str_isStr]
    by_cases q : n = name
    · subst q
      rw [beq_self_eq_true]
      exact ⟨fun c z => ⟨e, rfl, Option.some.inj z ▸ hv⟩, fun z => (nomatch z)⟩
    · rw [show (name == n) = false from beq_eq_false_iff_ne.mpr (Ne.symm q), show (n == name) = false from beq_eq_false_iff_ne.mpr q]
      exact ⟨i1, i2⟩
  | [], _ :: _, x => x.elim
  | _ :: _, [], x => x.elim
theorem ents_noref {P : Params} {h : Heap} : ∀ {fl : List (Str × AV)} {es : List DictEntry}, EntsR P h fl es → es.any (·.refKey) = false
  | [], [], _ => rfl
  | (n, a) :: r, e :: es, ⟨⟨t, hk⟩, _, _, hr⟩ => by
    rw [List.any_cons, ents_noref hr, Bool.or_false]
    unfold DictEntry.refKey
    rw [hk]
  | [], _ :: _, x => x.elim
  | _ :: _, [], x => x.elim
theorem ents_put {P : Params} {h : Heap} {name : Str} {a : AV} {v : Value} {t : Tok} (r : Rv h a v) : ∀ {fl : List (Str × AV)} {es : List DictEntry}, EntsR P h fl es → EntsR P h (putF name a fl) (putL name (PyData.keyHash P name) (.str name t) v es)
  | [], [], _ => ⟨⟨t, rfl⟩, rfl, r, trivial⟩
  | (n, b) :: fl, e :: es, ⟨⟨t', hk⟩, hh, hv, hr⟩ => by
    unfold putF putL
    rw [hk, str_isStr]
    by_cases q : n = name
    · rw [if_pos q, if_pos (beq_iff_eq.mpr q)]
      exact ⟨⟨t', rfl⟩, hh, r, hr⟩
    · rw [if_neg q, if_neg (fun z => q (beq_iff_eq.mp z))]
      exact ⟨⟨t', hk⟩, hh, hv, ents_put r hr⟩
  | [], _ :: _, x => x.elim
  | _ :: _, [], x => x.elim
theorem putName_at (name : Str) (hsh : Int) (key v : Value) (es : List DictEntry) (n : Nat) (c : Value) (d : Option Addr) (sl : Array (Option Value)) :
    ∃ n', Obj.putName name hsh key v ⟨c, d, .dict (List.toArray es) n, sl⟩ = ⟨c, d, .dict (List.toArray (putL name hsh key v es)) n', sl⟩ := by
  rw [Obj.putName_eq]
  unfold Obj.putNameByArray
  have h1 := putL_find name hsh key v es
  simp only [List.findIdx?_toArray]
  cases h : List.findIdx? (fun x => x.key.isStr name) es with
  | none => rw [h] at h1; rw [← h1]; exact ⟨n + 1, by simp⟩
  | some i => rw [h] at h1; rw [← h1]; exact ⟨n, by simp⟩
theorem putL_len (name : Str) (hsh : Int) (key v : Value) : ∀ es : List DictEntry, (putL name hsh key v es).length ≤ es.length + 1
  | [] => by simp [putL]
  | e :: r => by
    unfold putL
    split
    · simp
    · simp only [List.length_cons]; have := putL_len name hsh key v r; lia

theorem ents_len {P : Params} {h : Heap} : ∀ {fl : List (Str × AV)} {es : List DictEntry}, EntsR P h fl es → es.length = fl.length
  | [], [], _ => rfl
  | _ :: _, _ :: _, ⟨_, _, _, r⟩ => by simp only [List.length_cons, ents_len r]
  | [], _ :: _, x => x.elim
  | _ :: _, [], x => x.elim

noncomputable def imA : AV → Bool
  | .val _ => false
  | _ => true
theorem imA_handed {h : Heap} {a : AV} {u : Value} (e : imA a = true) (r : Rv h a u) : handedIn u = true := by
  match a, r with
  | .none, r => cases r; rfl
  | .bool _, r => cases r; rfl
  | .int _, r => obtain ⟨t, rfl⟩ := r; rfl
  | .str _, r => obtain ⟨t, rfl⟩ := r; rfl
  | .val _, _ => cases e
  | .strs _, r => obtain ⟨a, vs, rfl, _⟩ := r; rfl
  | .ints _, r => obtain ⟨a, vs, rfl, _⟩ := r; rfl
  | .pairs _, r => obtain ⟨a, vs, rfl, _⟩ := r; rfl
  | .pair _ _, r => obtain ⟨a, t, u, rfl, _⟩ := r; rfl

section
variable {W : Wx}
theorem k_ga : findIn W.K (.ref 674) "__getattribute__" = some (some (.builtin "object.__getattribute__")) := by kernel_rfl
theorem k_gx : findIn W.K (.ref 674) "__getattr__" = some none := by kernel_rfl
theorem k_sa : findIn W.K (.ref 674) "__setattr__" = some (some (.builtin "object.__setattr__")) := by kernel_rfl
theorem k_hd : hasDictIn W.K 674 = true := by kernel_rfl
theorem k_po : plainOver W.K 674 = true := by kernel_rfl

theorem inst_at {g : Cx} {A : Around} {σ : St} {S : Shared} {x dx : Addr} (I : In W g A σ S) (e : σ.ob = some (x, dx)) :
    ∃ ox es n sl, InstAt S.heap x ox 674 (some ⟨.type "dict", none, .dict (List.toArray es) n, sl⟩) ∧ ox.dict = some dx ∧ S.heap.get? dx = some ⟨.type "dict", none, .dict (List.toArray es) n, sl⟩ ∧ EntsR W.w.params S.heap σ.fl es := by
  have hO := I.ob
  unfold ObR at hO
  rw [e] at hO
  obtain ⟨⟨sl, e1⟩, ⟨es, n, sl', e2, e3⟩, _⟩ := hO
  exact ⟨_, es, n, sl', ⟨e1, rfl, rfl, e2⟩, rfl, e2, e3⟩

theorem get_field {g : Cx} {A : Around} {σ : St} {S : Shared} {x dx : Addr} {name : Str} {c : AV} {ex : Bool} {P : Value → Shared → Prop} {E : Value → Shared → Prop} (I : In W g A σ S) (e : σ.ob = some (x, dx)) (hf : findIn W.K (.ref 674) name = some none)
    (hl : σ.fl.lookup name = some c) (hi : imA c = true) (h : ∀ u t, Rv S.heap c u → P u { S with toks := t }) : wpAny W.M A (getAttr (.ref x) name ex) P E S := by
  obtain ⟨ox, es, n, sl, J, hd, hdx, hE⟩ := inst_at I e
  obtain ⟨en, h1, h2⟩ := (ents_find (name := name) hE).1 c hl
  have hlk : lookIn name ⟨.type "dict", none, .dict (List.toArray es) n, sl⟩ = some (some en.val) := by
    unfold lookIn
    show (match es.find? (fun d : DictEntry => d.key.isStr name) with | some e => some (some e.val) | none => if es.any (fun d : DictEntry => d.refKey) then none else some none) = _
    rw [h1]
  exact get_value I.k J k_ga (findObj_own k_hd hf rfl hlk) (imA_handed hi h2) (h _ _ h2)
theorem EV.attr {fn : Fn} {σ : St} {n name : Str} {np p : Pos} {Q : AV → St → Prop} (h : EV W fn (.Name n np) σ fun a σ1 => ∃ x dx c, a = .val (.ref x) ∧ σ1.ob = some (x, dx) ∧ σ1.fl.lookup name = some c ∧ imA c = true ∧ Q c σ1)
    (hf : findIn W.K (.ref 674) name = some none) : EV W fn (.Attribute (.Name n np) name p) σ Q := by
  refine ⟨fun g A S P E hg I k => ?_⟩
  refine Attribute_name (h.run g A S _ E hg I fun u S1 a σ1 h1 I1 r1 s1 => ?_)
  obtain ⟨x, dx, c, rfl, e, hl, hi, hq⟩ := h1
  cases r1
  exact get_field I1 e hf hl hi fun u t r => k _ _ _ _ hq (I1.toks t) r s1

theorem set_field {g : Cx} {A : Around} {σ : St} {S : Shared} {x dx : Addr} {name : Str} {a : AV} {v : Value} {P : Unit → Shared → Prop} {E : Value → Shared → Prop} (I : In W g A σ S) (e : σ.ob = some (x, dx)) (hf : findIn W.K (.ref 674) name = some none)
    (hz : σ.fl.length ≤ 100) (r : Rv S.heap a v) (h : ∀ h' t, In W g A { σ with fl := putF name a σ.fl } { S with heap := h', toks := t } → Step S.heap h' → P () { S with heap := h', toks := t }) : wpAny W.M A (setAttr (.ref x) name v) P E S := by
  obtain ⟨ox, es, n, sl, J, hd, hdx, hE⟩ := inst_at I e
  have hlk : (lookIn name ⟨.type "dict", none, .dict (List.toArray es) n, sl⟩).isSome = true := by
    unfold lookIn
    show (match es.find? (fun d : DictEntry => d.key.isStr name) with | some e => some (some e.val) | none => if es.any (fun d : DictEntry => d.refKey) then none else some none).isSome = true
    rw [ents_noref hE]
    split <;> rfl
  refine set_plain I.k J k_sa (osa_open (s := { S with toks := S.toks + 1 }) I.k J k_po (r := none) (by unfold takerIn; rw [hf]; rfl) fun b => ?_)
  obtain ⟨cd, hc, hd'⟩ := any_some (show (clsIn W.K 674).any (·.hasDict) = true from k_hd)
  obtain ⟨n', hput⟩ := putName_at name (PyData.keyHash W.w.params name) (.str name (S.toks + 1)) v es n (.type "dict") none sl
  have hx := J.at_
  have hcl := J.cls
  obtain ⟨oc, odi, oda, osl⟩ := ox
  dsimp only at hcl hd
  subst hcl hd
  refine wpAny_bind (wpAny_pure (wpAny_bind (wpAny_bind (wpAny_loadPart hx (wpAny_bind ((looks_clsIn (In.k (I.toks (S.toks + 1))) hc).here ?_))))))
  rw [hd']
  refine wpAny_pure (a := some dx) (wpAny_bind (wpAny_pure (wpAny_bind ?_)))
  unfold nsSet
  refine wpAny_bind (wpAny_bind (wpAny_askSetting (wpAny_pure (wpAny_bind (wpAny_mkText (wpAny_bind (wpAny_loadPart hdx ?_)))))))
  dsimp only
  have hnot : aRefKeyMayBeTheName name (List.toArray es) = false := by
    rw [aRefKeyMayBeTheName_at]
    have h1 : (List.toArray es).any (·.refKey) = false := by rw [← Array.any_toList]; exact ents_noref hE
    rw [h1, Bool.and_false]
  rw [hnot]
  have D' := Heap.get?_update_self (Obj.putName name (PyData.keyHash W.w.params name) (.str name (S.toks + 1)) v) hdx (by rw [hput]; rfl)
  rw [hput] at D'
  refine wpAny_updatePart hdx ?_
  refine wpAny_bind (wpAny_lookBehind D' (pastItsLine_dict (by rw [List.size_toArray, sizeLine_eq]; have := putL_len name (PyData.keyHash W.w.params name) (.str name (S.toks + 1)) v es; have := ents_len hE; lia)) ?_)
  refine wpAny_pure ?_
  have keep : ∀ b o, ¬ Free g σ b → S.heap.get? b = some o → (S.heap.update dx (Obj.putName name (PyData.keyHash W.w.params name) (.str name (S.toks + 1)) v)).get? b = some o := fun b o q z =>
    (Heap.get?_update_ne _ _ _ _ fun w => q (.inr ⟨x, by rw [e, w]⟩)).trans z
  have k := Free.stepFrom I keep
  obtain ⟨m, hm, hlo, hmm⟩ := I.lo
  have hO := I.ob
  unfold ObR at hO
  rw [e] at hO
  obtain ⟨⟨sl1, e1⟩, _, b1, b2, b3⟩ := hO
  refine h _ _ (I.upd keep ⟨m, ?_, hlo.step k, hmm.step k⟩ ?_ rfl) k
  · obtain ⟨oL, es', ep, hL, r'⟩ := hm
    exact ⟨oL, es', ep, (Heap.get?_update_ne _ _ _ _ (Ne.symm b3)).trans hL, r'⟩
  · unfold ObR
    rw [e]
    obtain ⟨sl2, e2⟩ := k x _ e1 (fun _ _ z => by cases z) (fun _ z => by cases z)
    exact ⟨⟨sl2, e2⟩, ⟨_, n', sl, D', ents_put (r.step k) (hE.step k)⟩, b1, b2, b3⟩
end
end
noncomputable section
open PySem PySem.W PySem.Calls PyProof.Rows Builtin
open H (Sets fEnd KF kf_in QV looseV PW)
section
variable {W : Wx} {fn : Fn} {σ : St}

theorem EX1.setattr {n name : Str} {np p p' : Pos} {e : Expr} {Q : AF → St → Prop} (h : EV W fn e σ fun a σ1 => EV W fn (.Name n np) σ1 fun b σ2 => ∃ x dx, b = .val (.ref x) ∧ σ2.ob = some (x, dx) ∧ σ2.fl.length ≤ 100 ∧ Q .next { σ2 with fl := putF name a σ2.fl })
    (hf : findIn W.K (.ref 674) name = some none) (hs : ∀ env, swapsWith e (some (.Attribute (.Name n np) name p')) p.line env = pure false := by intro env; rfl) : EX1 W fn (.Assign [.Attribute (.Name n np) name p'] e p) σ Q := by
  refine ⟨fun g A S P E hg I k ke => ?_⟩
  refine plainObj_wpAny_Assign_Attribute (h.run g A S _ E hg I fun u S1 a σ1 h1 I1 r1 s1 => h1.run g A S1 _ E hg I1 fun v S2 b σ2 h2 I2 r2 s2 => ?_) (hs _)
  obtain ⟨x, dx, rfl, e1, hz, hq⟩ := h2
  cases r2
  exact set_field I2 e1 hf hz (r1.step s2) fun h' t I3 _ => k _ _ .next _ hq I3 rfl
theorem EX1.augattr {n name : Str} {np p p' : Pos} {op : Operator} {e : Expr} {Q : AF → St → Prop} (h : EV W fn (.Name n np) σ fun b σ1 => ∃ x dx c, b = .val (.ref x) ∧ σ1.ob = some (x, dx) ∧ σ1.fl.lookup name = some c ∧ imA c = true ∧
      EV W fn e σ1 fun a σ2 => σ2.ob = some (x, dx) ∧ σ2.fl.length ≤ 100 ∧ ∃ r, iopA op c a = some r ∧ Q .next { σ2 with fl := putF name r σ2.fl })
    (hf : findIn W.K (.ref 674) name = some none) : EX1 W fn (.AugAssign (.Attribute (.Name n np) name p') op e p) σ Q := by
  refine ⟨fun g A S P E hg I k ke => ?_⟩
  refine wpAny_AugAssign_AttributeAny (h.run g A S _ E hg I fun u S1 b σ1 h1 I1 r1 s1 => ?_)
  obtain ⟨x, dx, c, rfl, e1, hl, hi, h2⟩ := h1
  cases r1
  refine get_field I1 e1 hf hl hi fun u t ru => h2.run g A _ _ E hg (I1.toks t) fun v S2 a σ2 h3 I2 r2 s2 => ?_
  obtain ⟨e2, hz, r, e3, hq⟩ := h3
  exact iop_ok e3 (ru.step s2) r2 fun z t rz => set_field (I2.toks t) e2 hf hz rz fun h' t' I3 _ => k _ _ .next _ hq I3 rfl
theorem EV.clsattr {n name : Str} {np p : Pos} {v : Value} {Q : AV → St → Prop} (h : EV W fn (.Name n np) σ fun a σ1 => a = .val (.ref 674) ∧ Q (.val v) σ1)
    (hf : findCls W.K (.ref 674) (.type "type") name = some (.val v)) (hv : handedIn v = true := by rfl) : EV W fn (.Attribute (.Name n np) name p) σ Q := by
  refine ⟨fun g A S P E hg I k => ?_⟩
  refine Attribute_name (h.run g A S _ E hg I fun u S1 a σ1 h1 I1 r1 s1 => ?_)
  obtain ⟨rfl, hq⟩ := h1
  cases r1
  exact cls_value I1.k (by kernel_rfl) hf hv (k _ _ _ _ hq (I1.toks _) rfl s1)
theorem EV.clsstr {n name : Str} {np p : Pos} {x : Str} {t : Tok} {Q : AV → St → Prop} (h : EV W fn (.Name n np) σ fun a σ1 => a = .val (.ref 674) ∧ Q (.str x.cps.toList) σ1)
    (hf : findCls W.K (.ref 674) (.type "type") name = some (.val (.str x t))) : EV W fn (.Attribute (.Name n np) name p) σ Q := by
  refine ⟨fun g A S P E hg I k => ?_⟩
  refine Attribute_name (h.run g A S _ E hg I fun u S1 a σ1 h1 I1 r1 s1 => ?_)
  obtain ⟨rfl, hq⟩ := h1
  cases r1
  exact cls_value I1.k (by kernel_rfl) hf rfl (k _ _ _ _ hq (I1.toks _) ⟨t, rfl⟩ s1)

theorem EV.fixed {n name : Str} {np p : Pos} {x C dx : Addr} {od : Obj} {sl : Array (Option Value)} {v : Value} {a : AV} {Q : AV → St → Prop} (h : EV W fn (.Name n np) σ fun b σ1 => b = .val (.ref x) ∧ Q a σ1) (ra : ∀ h, Rv h a v)
    (h1 : W.K.lookup x = some ⟨.ref C, some dx, .plain, sl⟩) (h2 : W.K.lookup dx = some od) (hg : plainGet W.K C name = true) (hf : findObj W.K C (some od) name = some (.value v)) (hv : handedIn v = true) : EV W fn (.Attribute (.Name n np) name p) σ Q := by
  refine ⟨fun g A S P E hg' I k => ?_⟩
  refine Attribute_name (h.run g A S _ E hg' I fun u S1 b σ1 h3 I1 r1 s1 => ?_)
  obtain ⟨rfl, hq⟩ := h3
  cases r1
  exact get_value I1.k (InstAt.of_K I1.k h1 h2) (plainGet_of hg).1 hf hv (k _ _ _ _ hq (I1.toks _) (ra _) s1)

noncomputable def clip (n : Nat) (i : Int) : Nat := (max 0 (min (if i < 0 then i + n else i) n)).toNat
noncomputable def slA (l : List Nat) (lo hi : Option Int) : List Nat := (l.drop (lo.elim 0 (clip l.length))).take ((hi.elim l.length (clip l.length)) - lo.elim 0 (clip l.length))
theorem clip_le (n : Nat) (i : Int) : clip n i ≤ n := by unfold clip; split <;> omega
theorem clip_cast (n : Nat) (i : Int) : ((clip n i : Nat) : Int) = max 0 (min (if i < 0 then i + n else i) n) := by
  unfold clip
  rw [Int.toNat_of_nonneg (by omega)]
theorem clip_id (n k : Nat) (h : k ≤ n) : (k : Int) = max 0 (min (if (k : Int) < 0 then (k : Int) + n else (k : Int)) n) := by
  rw [if_neg (by lia)]
  lia
theorem sl_idx (lo hi : Option Int) (n : Nat) : Str.strSliceIndices lo hi 1 n = Str.strSliceIndices (some ((lo.elim 0 (clip n) : Nat) : Int)) (some ((hi.elim n (clip n) : Nat) : Int)) 1 n := by
  unfold Str.strSliceIndices
  simp only [show (1 : Int) > 0 by decide, if_true]
  congr 1
  · cases lo with
    | none => exact clip_id n 0 (Nat.zero_le _)
    | some i => exact (clip_cast n i).symm.trans (clip_id n _ (clip_le n i))
  · cases hi with
    | none => exact clip_id n n (Nat.le_refl _)
    | some i => exact (clip_cast n i).symm.trans (clip_id n _ (clip_le n i))
set_option tactic.hygienic true in
theorem slice_eq (l : List Nat) (lo hi : Option Int) : Txt.slice (sx l) lo hi = sx (slA l lo hi) := by
  have e0 : Txt.slice (sx l) lo hi = StrLaws.sliceText (sx l) lo hi := rfl
  have e1 : StrLaws.sliceText (sx l) lo hi = StrLaws.sliceText (sx l) (some ((lo.elim 0 (clip l.length) : Nat) : Int)) (some ((hi.elim l.length (clip l.length) : Nat) : Int)) := by
    unfold StrLaws.sliceText
    rw [sx_length, sl_idx lo hi]
  rw [e0, e1]
  have ha : lo.elim 0 (clip l.length) ≤ l.length := by cases lo with | none => simp | some i => exact clip_le _ _
  have hb : hi.elim l.length (clip l.length) ≤ l.length := by cases hi with | none => simp | some i => exact clip_le _ _
  generalize hA : lo.elim 0 (clip l.length) = a at *
  generalize hB : hi.elim l.length (clip l.length) = b at *
  unfold slA
  rw [hA, hB]
  by_cases hab : a ≤ b
  · rw [StrLaws.sliceText_nat (sx l) hab (by rw [sx_length]; exact hb)]
  · have hz : b - a = 0 := by lia
    rw [hz, List.take_zero]
    unfold StrLaws.sliceText
    have hi0 : Str.strSliceIndices (some (a : Int)) (some (b : Int)) 1 (sx l).length = [] := by
      unfold Str.strSliceIndices sliceRange
      simp only [show (1 : Int) > 0 by decide, if_true, sx_length]
      rw [if_neg (by lia), if_neg (by omega)]
      first | rfl | (rw [if_neg (by omega)]; rfl) | simp
    rw [hi0]
    split
    · rename_i h
      have h0 : l.length = 0 := by
        have := h
        simp [sx_length] at this
        simp [this]
      have : l = [] := List.length_eq_zero_iff.mp h0
      subst this; rfl
    · rfl

theorem item_eq (l : List Nat) (i : Int) (h0 : 0 ≤ i) (h1 : i < l.length) : Txt.item (sx l) i = sx [l.getD i.toNat 0] := by
  unfold Txt.item Txt.charAt
  rw [StrLaws.seqIndex_nonneg h0 (by rw [sx_length]; exact h1)]
  show (⟨#[_]⟩ : Str) = ⟨#[_]⟩
  simp [List.getD]
theorem EV.item {o ix : Expr} {p : Pos} {Q : AV → St → Prop} (h : EV W fn o σ fun a σ1 => ∃ l, a = .str l ∧ l.length ≤ 1000 ∧ EV W fn ix σ1 fun b σ2 => ∃ i : Int, b = .int i ∧ 0 ≤ i ∧ i < l.length ∧ Q (.str [l.getD i.toNat 0]) σ2)
    (hs : ∀ x t i u, subscripted ix false (.str x t) (.int i u) = operate [.str x t, .int i u] (getItem (.str x t) (.int i u)) := by intro _ _ _ _; with_unfolding_all rfl)
    (ht : ∀ x t r, letTemporaryGo o (.str x t) r = pure () := by intro _ _ _; with_unfolding_all rfl) : EV W fn (.Subscript o ix p) σ Q := by
  refine ⟨fun g A S P E hg I k => ?_⟩
  refine Subscript_ (h.run g A S _ E hg I fun u S1 a σ1 h1 I1 r1 s1 => ?_)
  obtain ⟨l, rfl, hz, h2⟩ := h1
  obtain ⟨t, rfl⟩ := r1
  refine h2.run g A S1 _ E hg I1 fun v S2 b σ2 h3 I2 r2 s2 => ?_
  obtain ⟨i, rfl, h0, h1, hq⟩ := h3
  obtain ⟨t', rfl⟩ := r2
  refine item_str (by unfold fitsSsize; rw [Bool.not_eq_true', Bool.or_eq_false_iff, decide_eq_false_iff_not, decide_eq_false_iff_not]; lia) (by rw [sx_length]; lia) (by rw [sx_length]; exact h1) (fun _ => ?_) (hs _ _ _ _) (ht _ _)
  exact k _ _ _ _ hq (I2.toks _) ⟨_, by rw [item_eq l i h0 h1]⟩ (s1.trans s2)

theorem keptS (h0 : Heap) : KeptH (fun h => ∀ b o, h0.get? b = some o → h.get? b = some o) := fun h ob k b o e => Heap.get?_push_of_some _ (k b o e)
theorem EV.slice_sn {o ei : Expr} {p q : Pos} {Q : AV → St → Prop} (h : EV W fn o σ fun a σ1 => ∃ l, a = .str l ∧ l.length ≤ 1000 ∧ EV W fn ei σ1 fun b σ2 => ∃ i : Int, b = .int i ∧ Q (.str (slA l (some i) none)) σ2)
    (hs : ∀ x t i, subscripted (.Slice (some ei) none none q) false (.str x t) (.ref i) = operate [.ref i, .str x t] (getItem (.str x t) (.ref i)) := by intro _ _ _; with_unfolding_all rfl)
    (ht : ∀ x t r, letTemporaryGo o (.str x t) r = pure () := by intro _ _ _; with_unfolding_all rfl) : EV W fn (.Subscript o (.Slice (some ei) none none q) p) σ Q := by
  refine ⟨fun g A S P E hg I k => ?_⟩
  refine Subscript_ (h.run g A S _ E hg I fun u S1 a σ1 h1 I1 r1 s1 => ?_)
  obtain ⟨l, rfl, hz, h2⟩ := h1
  obtain ⟨t, rfl⟩ := r1
  refine wpAny_Slice (h2.run g A S1 _ E hg I1 fun v S2 b σ2 h3 I2 r2 s2 => ?_)
  obtain ⟨i, rfl, hq⟩ := h3
  obtain ⟨t', rfl⟩ := r2
  refine wpAny_pure (wpAny_pure (tail_of_ItemOn (SBH.sliceItem_sn (keptS S2.heap) (fun _ _ e => e) (fun h' t' kk a => ?_) (by rw [sx_length, sizeLine_eq]; lia)) (hs _ _ _) (ht _ _)))
  rw [slice_eq]
  exact k _ _ _ _ hq (I2.grows (S' := { S2 with heap := h', toks := kk }) a rfl rfl) ⟨_, rfl⟩ ((s1.trans s2).trans (.of_keeps a))
theorem EV.slice_ns {o ej : Expr} {p q : Pos} {Q : AV → St → Prop} (h : EV W fn o σ fun a σ1 => ∃ l, a = .str l ∧ l.length ≤ 1000 ∧ EV W fn ej σ1 fun b σ2 => ∃ i : Int, b = .int i ∧ Q (.str (slA l none (some i))) σ2)
    (hs : ∀ x t i, subscripted (.Slice none (some ej) none q) false (.str x t) (.ref i) = operate [.ref i, .str x t] (getItem (.str x t) (.ref i)) := by intro _ _ _; with_unfolding_all rfl)
    (ht : ∀ x t r, letTemporaryGo o (.str x t) r = pure () := by intro _ _ _; with_unfolding_all rfl) : EV W fn (.Subscript o (.Slice none (some ej) none q) p) σ Q := by
  refine ⟨fun g A S P E hg I k => ?_⟩
  refine Subscript_ (h.run g A S _ E hg I fun u S1 a σ1 h1 I1 r1 s1 => ?_)
  obtain ⟨l, rfl, hz, h2⟩ := h1
  obtain ⟨t, rfl⟩ := r1
  refine wpAny_Slice (wpAny_pure (h2.run g A S1 _ E hg I1 fun v S2 b σ2 h3 I2 r2 s2 => ?_))
  obtain ⟨i, rfl, hq⟩ := h3
  obtain ⟨t', rfl⟩ := r2
  refine wpAny_pure (tail_of_ItemOn (SBH.sliceItem_ns (keptS S2.heap) (fun _ _ e => e) (fun h' t' kk a => ?_) (by rw [sx_length, sizeLine_eq]; omega)) (hs _ _ _) (ht _ _))
  rw [slice_eq]
  exact k _ _ _ _ hq (I2.grows (S' := { S2 with heap := h', toks := kk }) a rfl rfl) ⟨_, rfl⟩ ((s1.trans s2).trans (.of_keeps a))
theorem EV.slice_ss {o ei ej : Expr} {p q : Pos} {Q : AV → St → Prop} (h : EV W fn o σ fun a σ1 => ∃ l, a = .str l ∧ l.length ≤ 1000 ∧ EV W fn ei σ1 fun b σ2 => ∃ i : Int, b = .int i ∧ EV W fn ej σ2 fun c σ3 => ∃ j : Int, c = .int j ∧ Q (.str (slA l (some i) (some j))) σ3)
    (hs : ∀ x t i, subscripted (.Slice (some ei) (some ej) none q) false (.str x t) (.ref i) = operate [.ref i, .str x t] (getItem (.str x t) (.ref i)) := by intro _ _ _; with_unfolding_all rfl)
    (ht : ∀ x t r, letTemporaryGo o (.str x t) r = pure () := by intro _ _ _; with_unfolding_all rfl) : EV W fn (.Subscript o (.Slice (some ei) (some ej) none q) p) σ Q := by
  refine ⟨fun g A S P E hg I k => ?_⟩
  refine Subscript_ (h.run g A S _ E hg I fun u S1 a σ1 h1 I1 r1 s1 => ?_)
  obtain ⟨l, rfl, hz, h2⟩ := h1
  obtain ⟨t, rfl⟩ := r1
  refine wpAny_Slice (h2.run g A S1 _ E hg I1 fun v S2 b σ2 h3 I2 r2 s2 => ?_)
  obtain ⟨i, rfl, h4⟩ := h3
  obtain ⟨t', rfl⟩ := r2
  refine h4.run g A S2 _ E hg I2 fun v S3 b σ3 h5 I3 r3 s3 => ?_
  obtain ⟨j, rfl, hq⟩ := h5
  obtain ⟨t'', rfl⟩ := r3
  refine wpAny_pure (tail_of_ItemOn (SBH.sliceItem_ss (keptS S3.heap) (fun _ _ e => e) (fun h' t' kk a => ?_) (by rw [sx_length, sizeLine_eq]; omega)) (hs _ _ _) (ht _ _))
  rw [slice_eq]
  exact k _ _ _ _ hq (I3.grows (S' := { S3 with heap := h', toks := kk }) a rfl rfl) ⟨_, rfl⟩ (((s1.trans s2).trans s3).trans (.of_keeps a))

noncomputable def isL (o : Obj) : Option (List Value) := match o.data with
  | .seq its _ => if o.cls = .type "list" then some its.toList else none
  | _ => none
theorem isL_eq {o : Obj} {l : List Value} (h : isL o = some l) : ∃ n, o.cls = .type "list" ∧ o.data = .seq l.toArray n := by
  unfold isL at h
  split at h
  · split at h
    · rename_i x y
      cases h
      exact ⟨_, y, x⟩
    · cases h
  · cases h
noncomputable def lenA (K : Frag) : AV → Option Nat
  | .str l => some l.length
  | .strs l => some l.length
  | .ints l => some l.length
  | .pairs l => some l.length
  | .val v => match v with
    | .ref a => ((K.lookup a).bind isL).map List.length
    | _ => none
  | _ => none
noncomputable def ordA : AV → Option AV
  | .str l => match l with
    | [c] => some (.int c)
    | _ => none
  | _ => none
noncomputable def blt1 (K : Frag) (f : String) (a : AV) : Option AV := if f = "len" then (lenA K a).bind fun n => if n ≤ 1000 then some (.int n) else none else if f = "ord" then ordA a else none
theorem blt_len {K : Frag} {a : AV} {n : Nat} (h : lenA K a = some n) (hz : n ≤ 1000) : blt1 K "len" a = some (.int n) := (if_pos rfl).trans (by rw [h]; exact if_pos hz)
theorem pairs_len {h : Heap} : ∀ {vs : List Value} {ps : List (List Nat × List Nat)}, PairsAre h vs ps → vs.length = ps.length
  | [], [], _ => rfl
  | _ :: _, _ :: _, ⟨_, r⟩ => by simp only [List.length_cons, pairs_len r]
  | [], _ :: _, x => x.elim
  | _ :: _, [], x => x.elim
theorem lenA_ok {a : AV} {n : Nat} {u : Value} {A : Around} {S : Shared} {P E : Value → Shared → Prop} (hK : W.K.In S.heap) (hc : lenA W.K a = some n) (hz : n ≤ 1000) (ra : Rv S.heap a u) (h : ∀ z t, Rv S.heap (.int n) z → P z { S with toks := t }) :
    wpAny W.M A (call (.builtin "len") [u]) P E S := by
  have key : ∀ {b : Addr} {vs : List Value}, S.heap.IsList b (List.toArray vs) → vs.length = n → wpAny W.M A (call (.builtin "len") [.ref b]) P E S := by
    intro b vs hl e
    have e := (List.size_toArray (as := vs)).trans e
    exact Calls.call_len_list hl (by rw [e]; lia) (by rw [e]; exact h _ _ ⟨_, rfl⟩)
  cases a with
  | str l =>
    cases hc
    obtain ⟨t, rfl⟩ := ra
    exact PySem.P.len_str (by rw [sx_length]; lia) (by rw [sx_length]; exact h _ _ ⟨_, rfl⟩)
  | «strs» l =>
    cases hc
    obtain ⟨b, vs, rfl, hl, hs⟩ := ra
    exact key hl (hs.len_eq.trans (List.length_map (f := sx)))
  | «ints» l =>
    cases hc
    obtain ⟨b, vs, rfl, hl, hs⟩ := ra
    exact key hl hs.length
  | «pairs» l =>
    cases hc
    obtain ⟨b, vs, rfl, hl, hs⟩ := ra
    exact key hl (pairs_len hs)
  | val v =>
    cases v with
    | ref x =>
      obtain ⟨l, h1, rfl⟩ := Option.map_eq_some_iff.mp hc
      obtain ⟨o, h2, h3⟩ := Option.bind_eq_some_iff.mp h1
      obtain ⟨m, h4, h5⟩ := isL_eq h3
      cases ra
      exact key ⟨_, hK _ _ h2, h4, m, h5⟩ rfl
    | _ => cases hc
  | _ => cases hc
theorem blt1_ok {id : String} {a c : AV} {u : Value} {A : Around} {S : Shared} {P E : Value → Shared → Prop} (hK : W.K.In S.heap) (hc : blt1 W.K id a = some c) (ra : Rv S.heap a u) (h : ∀ z t, Rv S.heap c z → P z { S with toks := t }) :
    wpAny W.M A (call (.builtin id) [u]) P E S := by
  unfold blt1 at hc
  split at hc
  · subst id
    obtain ⟨n, h1, h2⟩ := Option.bind_eq_some_iff.mp hc
    split at h2 <;> cases h2
    exact lenA_ok hK h1 ‹_› ra h
  · split at hc
    · subst id
      cases a with
      | str l =>
        match l, hc with
        | [x], hc =>
          obtain ⟨t, rfl⟩ := ra
          cases hc
          exact PySem.P.ord_of_char (h _ _ ⟨_, rfl⟩)
      | _ => cases hc
    · cases hc
theorem EV.call1 {f : Str} {id : String} {np p : Pos} {e : Expr} {Q : AV → St → Prop} (he : nsIn W.K mainGlobals f = some none) (hv : bootBuiltins f = some (.builtin id))
    (h : EV W fn e σ fun a σ1 => ∃ c, blt1 W.K id a = some c ∧ Q c σ1) (hn : f ≠ "__name__" := by decide) (hk : fn.sc.kind = .function := by rfl) (hx : fn.sc.names.lookup f = some .globalImplicit := by rfl) (hd : (f == ("__debug__" : Str)) = false := by decide)
    (hst : ∀ env, starEach [e] env = [(false, eval e env)] := by intro env; rfl) : EV W fn (.Call (.Name f np) [e] [] p) σ Q := by
  refine ⟨fun g A S P E hg I k => ?_⟩
  refine wpAny_Call_ofName ((EV.blt he hv (Q := fun a σ' => a = .val (.builtin id) ∧ σ' = σ) ⟨rfl, rfl⟩ hn hk hx hd).run g A S _ E hg I fun u S1 a σ1 h1 I1 r1 s1 => ?_)
  obtain ⟨rfl, rfl⟩ := h1
  cases r1
  have e0 : backTo p (starEach [e] g.env) = [(false, eval e g.env)] := by rw [hst]; rfl
  rw [e0]
  refine callWith_builtin1 (h.run g A S1 _ E hg I1 fun u S2 a σ2 h2 I2 r2 s2 => ?_)
  obtain ⟨c, ec, hq⟩ := h2
  exact blt1_ok I2.k ec r2 fun z t rz => k _ _ _ _ hq (I2.toks t) rz (s1.trans s2)
theorem EV.min2 {f : Str} {np p : Pos} {e1 e2 : Expr} {Q : AV → St → Prop} (he : nsIn W.K mainGlobals f = some none) (hv : bootBuiltins f = some (.builtin "min"))
    (h : EV W fn e1 σ fun a σ1 => EV W fn e2 σ1 fun b σ2 => ∃ i j : Int, a = .int i ∧ b = .int j ∧ Q (.int (min i j)) σ2) (hn : f ≠ "__name__" := by decide) (hk : fn.sc.kind = .function := by rfl) (hx : fn.sc.names.lookup f = some .globalImplicit := by rfl) (hd : (f == ("__debug__" : Str)) = false := by decide)
    (hst : ∀ env, starEach [e1, e2] env = [(false, eval e1 env), (false, eval e2 env)] := by intro env; rfl) : EV W fn (.Call (.Name f np) [e1, e2] [] p) σ Q := by
  refine ⟨fun g A S P E hg I k => ?_⟩
  refine wpAny_Call_ofName ((EV.blt he hv (Q := fun a σ' => a = .val (.builtin "min") ∧ σ' = σ) ⟨rfl, rfl⟩ hn hk hx hd).run g A S _ E hg I fun u S1 a σ1 h1 I1 r1 s1 => ?_)
  obtain ⟨rfl, rfl⟩ := h1
  cases r1
  have e0 : backTo p (starEach [e1, e2] g.env) = [(false, eval e1 g.env), (false, eval e2 g.env)] := by rw [hst]; rfl
  rw [e0]
  refine Calls.callWith_builtin rfl (Calls.evalArgs_plain (Calls.spliced_cons (h.run g A S1 _ E hg I1 fun u S2 a σ2 h2 I2 r2 s2 => Calls.spliced_cons (h2.run g A S2 _ E hg I2 fun v S3 b σ3 h3 I3 r3 s3 => Calls.spliced_nil ?_))))
  obtain ⟨i, j, rfl, rfl, hq⟩ := h3
  obtain ⟨t, rfl⟩ := r2
  obtain ⟨t', rfl⟩ := r3
  refine min_two_ints I3.hd fun h' tk hk => ?_
  refine k _ _ _ _ hq (I3.grows (S' := { S3 with heap := h', toks := tk }) hk rfl rfl) ?_ (((s1.trans s2).trans s3).trans (.of_keeps hk))
  by_cases hc : j < i
  · rw [if_pos hc, show min i j = j by lia]; exact ⟨_, rfl⟩
  · rw [if_neg hc, show min i j = i by lia]; exact ⟨_, rfl⟩
end
end
noncomputable section
open PySem PySem.W PySem.Calls PyProof.Rows Builtin
open H (Sets fEnd KF kf_in QV looseV PW)

noncomputable def RvAll (h : Heap) : List AV → List Value → Prop
  | [], [] => True
  | a :: as, v :: vs => Rv h a v ∧ RvAll h as vs
  | _, _ => False
theorem RvAll.step {h h' : Heap} (k : Step h h') : ∀ {as : List AV} {vs : List Value}, RvAll h as vs → RvAll h' as vs
  | [], [], _ => trivial
  | _ :: _, _ :: _, ⟨x, y⟩ => ⟨x.step k, y.step k⟩
  | [], _ :: _, x => x.elim
  | _ :: _, [], x => x.elim
theorem RvAll.len {h : Heap} : ∀ {as : List AV} {vs : List Value}, RvAll h as vs → vs.length = as.length
  | [], [], _ => rfl
  | _ :: _, _ :: _, ⟨_, y⟩ => by simp only [List.length_cons, y.len]
  | [], _ :: _, x => x.elim
  | _ :: _, [], x => x.elim

structure CallOK (W : Wx) (f : Addr) (rm : Nat) (avs : List AV) (ob : Option (Addr × Addr)) (fl : List (Str × AV)) (Q : AV → List (Str × AV) → Prop) : Prop where
  run : ∀ (g : Cx) (A : Around) (σ : St) (S : Shared) (vals : List Value) (P : Value → Shared → Prop) (E : Value → Shared → Prop), rm < g.fn.rm → In W g A σ S → σ.ob = ob → σ.fl = fl → RvAll S.heap avs vals →
    (∀ u S' a fl', Q a fl' → In W g A { σ with fl := fl' } S' → Rv S'.heap a u → Step S.heap S'.heap → P u S') → codeAny W.M A (.call (.ref f) ⟨vals, []⟩) (fun r s' => match r with | .ok (.ret v) => P v s' | .ok _ => False | .error e => E e s') S

theorem zip_lookup {h : Heap} {m0 : List (Str × Value)} : ∀ {ns : List Str} {as : List AV} {vs : List Value}, RvAll h as vs → ns.Nodup → ∀ x a, (ns.zip as).lookup x = some a → ∃ u, (ns.zip vs).lookup x = some u ∧ Rv h a u
  | [], _, _, _, _, x, a, e => by cases e
  | n :: ns, [], [], _, _, x, a, e => by cases e
  | n :: ns, b :: as, v :: vs, ⟨r1, r2⟩, hn, x, a, e => by
    rw [List.zip_cons_cons, List.lookup_cons] at e ⊢
    by_cases q : x = n
    · subst q
      rw [beq_self_eq_true] at e ⊢
      exact ⟨v, rfl, Option.some.inj e ▸ r1⟩
    · rw [show (x == n) = false from beq_eq_false_iff_ne.mpr q] at e ⊢
      exact zip_lookup (m0 := m0) r2 (List.nodup_cons.mp hn).2 x a e
  | _ :: _, [], _ :: _, x, _, _, _, _ => x.elim
  | _ :: _, _ :: _, [], x, _, _, _, _ => x.elim
theorem lookup_mem {l : List (Str × Value)} {x : Str} {u : Value} (e : l.lookup x = some u) : (x, u) ∈ l := by
  induction l with
  | nil => cases e
  | cons p r ih =>
    obtain ⟨y, v⟩ := p
    rw [List.lookup_cons] at e
    by_cases q : x = y
    · subst q
      rw [beq_self_eq_true] at e
      cases e; exact .head _
    · rw [show (x == y) = false from beq_eq_false_iff_ne.mpr q] at e
      exact .tail _ (ih e)
theorem lookup_of_mem {l : List (Str × Value)} (hn : (l.map (·.1)).Nodup) {x : Str} {u : Value} (e : (x, u) ∈ l) : l.lookup x = some u := by
  induction l with
  | nil => cases e
  | cons p r ih =>
    obtain ⟨y, v⟩ := p
    rw [List.map_cons, List.nodup_cons] at hn
    rw [List.lookup_cons]
    rcases List.mem_cons.mp e with q | q
    · cases q; rw [beq_self_eq_true]
    · have : x ≠ y := fun z => hn.1 (z ▸ List.mem_map_of_mem (f := (·.1)) q)
      rw [show (x == y) = false from beq_eq_false_iff_ne.mpr this]
      exact ih hn.2 q
theorem lookup_rev {l : List (Str × Value)} (hn : (l.map (·.1)).Nodup) {x : Str} {u : Value} (e : l.lookup x = some u) : l.reverse.lookup x = some u :=
  lookup_of_mem (by rw [List.map_reverse]; unfold List.Nodup; rw [List.pairwise_reverse]; exact hn.imp Ne.symm) (List.mem_reverse.mpr (lookup_mem e))

noncomputable def hidden (g : Cx) (σ : St) : List Addr := (g.env :: g.outer).filterMap (·.frame) ++ (match σ.ob with | some (_, dx) => [dx] | none => [])
set_option tactic.hygienic true in
theorem hidden_B {W : Wx} {g : Cx} {A : Around} {σ : St} {S : Shared} (I : In W g A σ S) {b : Addr} (h : b ∈ hidden g σ) : g.B.get? b = none := by
  rcases List.mem_append.mp h with h | h
  · exact (I.ff.mem h).1
  · have hO := I.ob
    unfold ObR at hO
    split at h
    · rename_i x dx e
      rw [e] at hO
      obtain rfl := List.mem_singleton.mp h
      exact hO.2.2.1
    · cases h
theorem nonf_hide {h : Heap} {b dx : Addr} {o : Obj} (e : h.get? b = some o) (n : b ≠ dx) : (hideAll h [dx]).get? b = some o := hideAll_get _ e (by simpa using n)
noncomputable def hideN (σ : St) (h : Heap) : Heap := match σ.ob with | some (_, dx) => hideAll h [dx] | none => h
theorem hideN_of {σ : St} {h : Heap} {b : Addr} {o : Obj} (e : (hideN σ h).get? b = some o) : h.get? b = some o := by
  unfold hideN at e
  split at e
  · exact of_hideAll _ e
  · exact e
set_option tactic.hygienic true in
theorem hideN_get {σ : St} {h : Heap} {b : Addr} {o : Obj} (e : h.get? b = some o) (n : ∀ x, σ.ob ≠ some (x, b)) : (hideN σ h).get? b = some o := by
  unfold hideN
  split
  · rename_i x dx q
    exact nonf_hide e fun z => n x (by rw [q, z])
  · exact e
theorem hideN_size {σ : St} {h : Heap} : (hideN σ h).objs.size = h.objs.size := by
  unfold hideN
  split
  · exact hideAll_size _ _
  · rfl

theorem CallOK.of {W : Wx} {fn : Fn} {name : Str} {params : Arguments} {body : List Stmt} {dV kV doc pm ct oc : Value} {an od : Option Addr} {osl : Array (Option Value)} {avs : List AV} {ob : Option (Addr × Addr)} {fl : List (Str × AV)} {ns : List Str} {Q : AV → List (Str × AV) → Prop}
    (ho : W.K.lookup fn.a = some ⟨oc, od, .func (fnOf name fn.q params body fn.sc dV kV doc pm an fn.cd ct), osl⟩) (hcd : codeIn W.K fn.cd fn.q = true)
    (hbind : ∀ vals : List Value, vals.length = avs.length → bindArgs (fnOf name fn.q params body fn.sc dV kV doc pm an fn.cd ct) ⟨vals, []⟩ = pure (ns.zip vals)) (hlen : ns.length = avs.length) (hnd : ns.Nodup)
    (hloc : ∀ y ∈ ns, fn.sc.names.lookup y = some .local) (hk : fn.sc.kind = .function) (hcell : ∀ x ∈ fn.sc.names, x.2 ≠ .cell) (hco : fn.sc.isCoroutine = false) (hgen : fn.sc.isGenerator = false)
    (h : EX W fn body ⟨ns.zip avs, ob, fl, none⟩ fun r σ' => ∃ a, (r = .ret a ∨ (r = .next ∧ a = .none)) ∧ σ'.ob = ob ∧ Q a σ'.fl) : CallOK W fn.a fn.rm avs ob fl Q := by
  refine ⟨fun g A σ S vals P E hrm I e1 e2 hv k => ?_⟩
  have hl := hv.len
  have hk' := I.k
  obtain ⟨mg, mb, T⟩ := I.top
  refine codeAny_call_def (fd := fnOf name fn.q params body fn.sc dV kV doc pm an fn.cd ct) (body := body) (binds := ns.zip vals) ?_ (hk' _ _ ho) rfl T.nolimit (codeRec_of hk' hcd) rfl (BindsTo.of_eq (hbind vals hl)) hcell ?_ (fun h₁ hns hk₁ => ?_) hco hgen hk
  · have := I.dp; unfold recursionLimit; lia
  · intro y hy
    obtain ⟨n, v⟩ := y
    exact hloc n (List.of_mem_zip hy).1
  let B' := hideAll S.heap (hidden g σ)
  let g' : Cx := ⟨fn, B', hideN σ S.heap, S.heap.objs.size, g.env :: g.outer⟩
  have hB : ∀ b o, g.B.get? b = some o → B'.get? b = some o := fun b o e => hideAll_get _ (I.st b o e) fun q => by rw [hidden_B I q] at e; cases e
  have ff' : h₁.FunFrames B' (g'.env :: g.env :: g.outer) := by
    refine Heap.FunFrames.cons (L := S.heap.objs.size) (by show fn.sc.kind ≠ .module; rw [hk]; decide) rfl hns (Heap.get?_none_of_le (Nat.le_of_eq (hideAll_size _ _))) ?_
    have f1 : h₁.FunFrames g.B (g.env :: g.outer) := FunFrames.keeps I.ff hk₁
    have hid : ∀ env ∈ (g.env :: g.outer), ∀ b, env.frame = some b → B'.get? b = none := fun env he b hb => hideAll_none _ (List.mem_append_left _ (List.mem_filterMap.mpr ⟨env, he, hb⟩))
    clear_value B'
    generalize (g.env :: g.outer) = l at f1 hid ⊢
    induction l with
    | nil => trivial
    | cons env r ih =>
      obtain ⟨a1, ⟨L, o, a2, a3, a4, a5⟩, a6⟩ := f1
      exact ⟨a1, ⟨L, o, a2, hid env (.head _) L a2, a4, a5⟩, ih a6 fun e he => hid e (.tail _ he)⟩
  have I' : In W g' (A.deeper g'.env) ⟨ns.zip avs, ob, fl, none⟩ { S with heap := h₁, toks := S.toks + (ns.zip vals).length } := by
    refine ⟨Around.frames_deeper I.fr, I.hd, ?_, ?_, hk, fun b o e => hB b o (I.bs b o e), fun b o e => hk₁ b o (of_hideAll _ e), fun b o e n => ⟨o.slots, hk₁ b o (hideN_of e)⟩, Heap.get?_none_of_le (Nat.le_of_eq hideN_size), ff', fun b hb => ?_, ⟨_, hns, fun x a e => ?_, trivial⟩, ?_, I.gens, I.os⟩
    · have := I.dp; show A.depth + 1 + 10 * fn.rm ≤ 900; lia
    · have := I.un; show A.units + 3 + 50 * fn.rm ≤ 5000; lia
    · rcases List.mem_cons.mp (show b ∈ S.heap.objs.size :: (g.env :: g.outer).filterMap (·.frame) from hb) with rfl | hb
      · obtain ⟨oL, es, ep, a1, a2, _⟩ := hns
        exact ⟨oL, es, ep, a1, a2⟩
      · obtain ⟨o, es, n, a1, a2⟩ := I.fd b hb
        exact ⟨o, es, n, hk₁ b o a1, a2⟩
    · obtain ⟨u, a1, a2⟩ := zip_lookup (m0 := []) hv hnd x a e
      refine ⟨u, ?_, a2.step (.of_keeps hk₁)⟩
      refine lookup_rev ?_ a1
      rw [List.map_fst_zip (by lia)]
      exact hnd
    · have hO := I.ob
      unfold ObR at hO ⊢
      rw [e1] at hO
      cases ob with
      | none => trivial
      | some p =>
        obtain ⟨x, dx⟩ := p
        obtain ⟨⟨sl, a1⟩, a2, a3, a4, a5⟩ := hO
        rw [e2] at a2
        obtain ⟨es, n, sl', a6, a7⟩ := a2
        refine ⟨⟨sl, hk₁ _ _ a1⟩, ⟨es, n, sl', hk₁ _ _ a6, a7.step (.of_keeps hk₁)⟩, hideAll_none _ (List.mem_append_right _ (by rw [e1]; exact .head _)), ?_, fun q => ?_⟩
        · have hno : (hideN σ S.heap).get? dx = none := by
            unfold hideN
            rw [e1]
            exact hideAll_none _ (.head _)
          intro o ho
          rw [show (hideN σ S.heap).get? dx = some o from ho] at hno
          cases hno
        · have := Heap.lt_size a6
          rw [q] at this
          exact absurd this (Nat.lt_irrefl _)
  refine h.run g' (A.deeper g'.env) _ _ _ rfl I' (fun f S' r σ' hq I2 hf => ?_) (fun e S' kk σ' hq I2 hx => ?_)
  · obtain ⟨a, hr, o1, hq⟩ := hq
    -- back in the caller
    have bk : ∀ b o, g.B.get? b = some o → S'.heap.get? b = some o := fun b o e => I2.st b o (hB b o e)
    have up : ∀ b o, S.heap.get? b = some o → (∀ x, σ.ob ≠ some (x, b)) → (∀ vs, o.data ≠ .fields vs) → ∃ sl, S'.heap.get? b = some { o with slots := sl } := fun b o e n1 n2 => I2.up b o (hideN_get e n1) n2
    have st : Step S.heap S'.heap := fun b o e n1 n2 => up b o e (fun x q => by
      have hO := I.ob
      unfold ObR at hO
      rw [q] at hO
      obtain ⟨_, ⟨es, n, sl, a6, _⟩, _⟩ := hO
      rw [e] at a6; cases a6; exact n1 _ _ rfl) n2
    have hLne : ∀ x, σ.ob ≠ some (x, g.L) := fun x q => by
      have hO := I.ob
      unfold ObR at hO
      rw [q] at hO
      exact hO.2.2.2.2 rfl
    have IC : In W g A { σ with fl := σ'.fl } S' := by
      obtain ⟨m, hm, hlo, hml⟩ := I.lo
      refine ⟨I.fr, I.hd, I.dp, I.un, I.sk, I.bs, bk, fun b o e n => ?_, I.nl, ?_, fun b hb => I2.fd b (.tail _ hb), ⟨m, ?_, hlo.step st, hml.step st⟩, ?_, I2.gens, I2.os⟩
      · obtain ⟨sl, a1⟩ := I.up b o e n
        have nd : ∀ x, σ.ob ≠ some (x, b) := fun x q => by
          have hO := I.ob
          unfold ObR at hO
          rw [q] at hO
          obtain ⟨vs, hv⟩ := hO.2.2.2.1 o e
          exact n vs hv
        obtain ⟨sl2, a2⟩ := up b _ a1 nd n
        exact ⟨sl2, a2⟩
      · obtain ⟨_, _, f2⟩ := I2.ff
        have f0 := I.ff
        clear hf hr
        have gen : ∀ l : List Env, S'.heap.FunFrames B' l → S.heap.FunFrames g.B l → S'.heap.FunFrames g.B l := by
          intro l
          induction l with
          | nil => exact fun _ _ => trivial
          | cons env r ih =>
            rintro ⟨a1, ⟨L, o, a2, a3, a4, a5⟩, a6⟩ ⟨b1, ⟨L', o', b2, b3, b4, b5⟩, b6⟩
            rw [a2] at b2; cases b2
            exact ⟨a1, ⟨L, o, a2, b3, a4, a5⟩, ih a6 b6⟩
        exact gen _ f2 f0
      · obtain ⟨oL, es, ep, a1, a2, a3⟩ := hm
        obtain ⟨sl, a4⟩ := up g.L oL a1 hLne (fun vs q => by rw [a2] at q; cases q)
        exact ⟨_, es, ep, a4, a2, a3⟩
      · have hO := I.ob
        have hO2 := I2.ob
        unfold ObR at hO hO2 ⊢
        rw [o1] at hO2
        dsimp only
        rw [e1] at hO ⊢
        cases ob with
        | none => trivial
        | some p =>
          obtain ⟨x, dx⟩ := p
          exact ⟨hO2.1, hO2.2.1, hO.2.2⟩
    rcases hr with rfl | ⟨rfl, rfl⟩
    · obtain ⟨v, rfl, r⟩ := hf
      exact k _ _ a _ hq IC r st
    · cases hf
      exact k _ _ .none _ hq IC rfl st
  · obtain ⟨a, hr, _⟩ := hq
    rcases hr with hr | ⟨hr, _⟩ <;> cases hr
end
noncomputable section
open PySem PySem.W PySem.Calls PyProof.Rows Builtin
open H (Sets fEnd KF kf_in QV looseV PW)

structure AR (W : Wx) (fn : Fn) (p : Pos) (es : List Expr) (σ : St) (Q : List AV → St → Prop) : Prop where
  run : ∀ (g : Cx) (A : Around) (S : Shared) (P : List Value → Shared → Prop) (E : Value → Shared → Prop), g.fn = fn → In W g A σ S →
    (∀ us S' as σ', Q as σ' → In W g A σ' S' → RvAll S'.heap as us → Step S.heap S'.heap → P us S') → wpAny W.M A (spliced (backTo p (starEach es g.env))) P E S
section
variable {W : Wx} {fn : Fn} {σ : St}
theorem AR.nil {p : Pos} {Q : List AV → St → Prop} (h : Q [] σ) : AR W fn p [] σ Q := ⟨fun g A S P E hg I k => args_nil (k _ _ _ _ h I trivial (.refl _))⟩
abbrev qA1 (a : AV) (Q : List AV → St → Prop) (as : List AV) (σ : St) : Prop := Q (a :: as) σ
abbrev qAr (W : Wx) (fn : Fn) (p : Pos) (es : List Expr) (Q : List AV → St → Prop) (a : AV) (σ : St) : Prop := AR W fn p es σ (qA1 a Q)
theorem AR.cons {p : Pos} {e : Expr} {es : List Expr} {Q : List AV → St → Prop} (h : EV W fn e σ (qAr W fn p es Q)) (he : ∀ env, starEach (e :: es) env = (false, eval e env) :: starEach es env := by intro env; rfl) : AR W fn p (e :: es) σ Q := by
  refine ⟨fun g A S P E hg I k => ?_⟩
  exact args_cons (h.run g A S _ E hg I fun u S1 a σ1 h1 I1 r1 s1 => h1.run g A S1 _ E hg I1 fun us S2 as σ2 h2 I2 r2 s2 => k _ _ _ _ h2 I2 ⟨r1.step s2, r2⟩ (s1.trans s2)) (he _)

theorem CallOK.go {f : Addr} {rm : Nat} {avs : List AV} {g : Cx} {A : Around} {S : Shared} {vals : List Value} {P E : Value → Shared → Prop} {Q : AV → St → Prop} (h : CallOK W f rm avs σ.ob σ.fl fun a fl' => Q a { σ with fl := fl' }) (hrm : rm < g.fn.rm) (I : In W g A σ S) (hv : RvAll S.heap avs vals)
    (k : ∀ u S' a σ', Q a σ' → In W g A σ' S' → Rv S'.heap a u → Step S.heap S'.heap → P u S') : wpAny W.M A (call (.ref f) vals) P E S :=
  wpAny_call (h.run g A σ S vals P E hrm I rfl rfl hv fun u S' a fl' hq I' r s => k u S' a _ hq I' r s)

theorem get_method {g : Cx} {A : Around} {S : Shared} {x dx f : Addr} {m : Str} {pl : Sem Bool} {P : Value × List Value → Shared → Prop} {E : Value → Shared → Prop} (I : In W g A σ S) (e : σ.ob = some (x, dx)) (hl : σ.fl.lookup m = none) (hf : findIn W.K (.ref 674) m = some (some (.ref f)))
    (ht : typeIn W.K (.ref f) = some (.type "function")) (h : P (.ref f, [.ref x]) S) : wpAny W.M A (getMethod (.ref x) m pl) P E S := by
  obtain ⟨ox, es, n, sl, J, hd, hdx, hE⟩ := inst_at I e
  refine method_fn I.k J k_ga k_gx hf ht ?_ h
  show (lookIn m _).map _ = _
  have : lookIn m ⟨.type "dict", none, .dict (List.toArray es) n, sl⟩ = some none := by
    unfold lookIn
    show (match es.find? (fun d : DictEntry => d.key.isStr m) with | some e => some (some e.val) | none => if es.any (fun d : DictEntry => d.refKey) then none else some none) = _
    rw [(ents_find (name := m) hE).2 hl, ents_noref hE]
    rfl
  rw [this]; rfl

theorem EV.meth0 {n m : Str} {np ap p : Pos} {f : Addr} {rm : Nat} {Q : AV → St → Prop} (h : EV W fn (.Name n np) σ fun b σ1 => ∃ x dx, b = .val (.ref x) ∧ σ1.ob = some (x, dx) ∧ σ1.fl.lookup m = none ∧ CallOK W f rm [.val (.ref x)] σ1.ob σ1.fl fun a fl' => Q a { σ1 with fl := fl' })
    (hf : findIn W.K (.ref 674) m = some (some (.ref f))) (ht : typeIn W.K (.ref f) = some (.type "function")) (hk : keepIn W.K (.ref f) = true) (hrm : rm < fn.rm)
    (pl : Env → Sem Bool) (he : ∀ env, eval (.Call (.Attribute (.Name n np) m ap) [] [] p) env = (do
      let ov ← eval (.Name n np) env
      standAt ap.atName
      let (f, first) ← holding [ov] (getMethod ov m (pl env))
      callWith p f first (backTo p (starEach [] env)) (backToKw p (keywordEach [] env)))) : EV W fn (.Call (.Attribute (.Name n np) m ap) [] [] p) σ Q := by
  refine ⟨fun g A S P E hg I k => ?_⟩
  refine methodCall_KW (h.run g A S _ E hg I fun u S1 b σ1 h1 I1 r1 s1 => ?_) (he _)
  obtain ⟨x, dx, rfl, e, hl, hc⟩ := h1
  cases r1
  refine get_method I1 e hl hf ht (callWith_K0 I1.k hk ?_)
  exact hc.go (hg ▸ hrm) I1 ⟨rfl, trivial⟩ fun u S' a σ' hq I' r s => k _ _ _ _ hq I' r (s1.trans s)
theorem EV.meth {n m : Str} {np ap p : Pos} {f : Addr} {rm : Nat} {e : Expr} {es : List Expr} {Q : AV → St → Prop} (h : EV W fn (.Name n np) σ fun b σ1 => ∃ x dx, b = .val (.ref x) ∧ σ1.ob = some (x, dx) ∧ σ1.fl.lookup m = none ∧
      AR W fn p (e :: es) σ1 fun as σ2 => CallOK W f rm (.val (.ref x) :: as) σ2.ob σ2.fl fun a fl' => Q a { σ2 with fl := fl' })
    (hf : findIn W.K (.ref 674) m = some (some (.ref f))) (ht : typeIn W.K (.ref f) = some (.type "function")) (hk : keepIn W.K (.ref f) = true) (hrm : rm < fn.rm)
    (pl : Env → Sem Bool) (he : ∀ env, eval (.Call (.Attribute (.Name n np) m ap) (e :: es) [] p) env = (do
      let ov ← eval (.Name n np) env
      standAt ap.atName
      let (f, first) ← holding [ov] (getMethod ov m (pl env))
      callWith p f first (backTo p (starEach (e :: es) env)) (backToKw p (keywordEach [] env))))
    (hst : ∀ env, starEach (e :: es) env = (false, eval e env) :: starEach es env := by intro env; rfl) (hpl : ∀ env, (backTo p (starEach es env)).any (·.1) = false := by intro env; rfl) : EV W fn (.Call (.Attribute (.Name n np) m ap) (e :: es) [] p) σ Q := by
  refine ⟨fun g A S P E hg I k => ?_⟩
  refine methodCall_KW (h.run g A S _ E hg I fun u S1 b σ1 h1 I1 r1 s1 => ?_) (he _)
  obtain ⟨x, dx, rfl, e1, hl, hc⟩ := h1
  cases r1
  refine get_method I1 e1 hl hf ht (callWith_K I1.k hk (hc.run g A S1 _ E hg I1 fun us S2 as σ2 h2 I2 r2 s2 => ⟨I2.k, ?_⟩) (hst _) (hpl _))
  exact h2.go (hg ▸ hrm) I2 ⟨rfl, r2⟩ fun u S' a σ' hq I' r s => k _ _ _ _ hq I' r ((s1.trans s2).trans s)
theorem EV.fcall0 {n : Str} {np p : Pos} {f : Addr} {rm : Nat} {Q : AV → St → Prop} (h : EV W fn (.Name n np) σ fun b σ1 => b = .val (.ref f) ∧ CallOK W f rm [] σ1.ob σ1.fl fun a fl' => Q a { σ1 with fl := fl' })
    (hk : keepIn W.K (.ref f) = true) (hrm : rm < fn.rm) : EV W fn (.Call (.Name n np) [] [] p) σ Q := by
  refine ⟨fun g A S P E hg I k => ?_⟩
  refine wpAny_Call_ofName (h.run g A S _ E hg I fun u S1 b σ1 h1 I1 r1 s1 => ?_)
  obtain ⟨rfl, hc⟩ := h1
  cases r1
  refine callWith_K0 I1.k hk ?_
  exact hc.go (hg ▸ hrm) I1 trivial fun u S' a σ' hq I' r s => k _ _ _ _ hq I' r (s1.trans s)
theorem EV.fcall {n : Str} {np p : Pos} {f : Addr} {rm : Nat} {e : Expr} {es : List Expr} {Q : AV → St → Prop} (h : EV W fn (.Name n np) σ fun b σ1 => b = .val (.ref f) ∧ AR W fn p (e :: es) σ1 fun as σ2 => CallOK W f rm as σ2.ob σ2.fl fun a fl' => Q a { σ2 with fl := fl' })
    (hk : keepIn W.K (.ref f) = true) (hrm : rm < fn.rm)
    (hst : ∀ env, starEach (e :: es) env = (false, eval e env) :: starEach es env := by intro env; rfl) (hpl : ∀ env, (backTo p (starEach es env)).any (·.1) = false := by intro env; rfl) : EV W fn (.Call (.Name n np) (e :: es) [] p) σ Q := by
  refine ⟨fun g A S P E hg I k => ?_⟩
  refine wpAny_Call_ofName (h.run g A S _ E hg I fun u S1 b σ1 h1 I1 r1 s1 => ?_)
  obtain ⟨rfl, hc⟩ := h1
  cases r1
  refine callWith_K I1.k hk (hc.run g A S1 _ E hg I1 fun us S2 as σ2 h2 I2 r2 s2 => ⟨I2.k, ?_⟩) (hst _) (hpl _)
  exact h2.go (hg ▸ hrm) I2 r2 fun u S' a σ' hq I' r s => k _ _ _ _ hq I' r ((s1.trans s2).trans s)
theorem EX1.expr {e : Expr} {p : Pos} {Q : AF → St → Prop} (h : EV W fn e σ (qX Q)) (hk : fn.sc.kind = .function := by rfl) (hs : ∀ env, swapsWith e none p.line env = pure false := by intro env; rfl) : EX1 W fn (.Expr e p) σ Q := by
  refine ⟨fun g A S P E hg I k ke => ?_⟩
  refine wpAny_Expr_any (h.run g A S _ E hg I fun u S1 a σ1 h1 I1 r1 s1 => k _ _ .next _ h1 I1 rfl) ?_ (hs _)
  subst hg
  show (g.fn.sc.kind == .module && _) = false
  rw [hk]; rfl
theorem EX1.assert {t : Expr} {p : Pos} {Q : AF → St → Prop} (h : TR W fn t σ fun c σ' => c = true ∧ Q .next σ') : EX1 W fn (.Assert t none p) σ Q := by
  refine ⟨fun g A S P E hg I k ke => ?_⟩
  refine wpAny_Assert I.hd (h.run g A S _ E hg I fun c S' σ' hq I' s => ?_)
  obtain ⟨rfl, hq⟩ := hq
  exact k _ _ .next _ hq I' rfl

theorem labs_own (k : Bool) {g : Cx} {A : Around} {S : Shared} (I : In W g A σ S) {x : Str} (e : nsIn W.K mainGlobals x = some (some (.ref (labOf k)))) : ∃ mg, S.heap.Ns mainGlobals mg ∧ OwnCls x (labOf k) [.type "Exception", .type "BaseException", .type "object"] "Exception.__new__" mg S.heap := by
  obtain ⟨mg, mb, T⟩ := I.top
  exact ⟨mg, T.g, own_of_in I.k T e (by cases k <;> kernel_rfl)⟩
theorem name_here {g : Cx} {A : Around} {S : Shared} (I : In W g A σ S) {x : Str} {np : Pos} {v : Value} {B : Around} {P : Value → Shared → Prop} {E : Value → Shared → Prop} {t : Nat} (e : nsIn W.K mainGlobals x = some (some v)) (h : P v { S with toks := t })
    (hk : g.fn.sc.kind = .function) (hx : g.fn.sc.names.lookup x = some .globalImplicit) (hd : (x == ("__debug__" : Str)) = false) : wpAny W.M B (eval (.Name x np) g.env) P E { S with toks := t } := by
  obtain ⟨mg, mb, T⟩ := I.top
  exact Calls.Name_function_global (env := g.env) hk hx (Calls.loadGlobal_global (env := g.env) (s := { S with toks := t }) T.g (mg_of I.k T.g e) h) hd
theorem EX1.raise {x : Str} {np cp p : Pos} {Q : AF → St → Prop} (kk : Bool) (e : nsIn W.K mainGlobals x = some (some (.ref (labOf kk)))) (h : Q (.exc kk) σ) (hk : fn.sc.kind = .function := by rfl) (hx : fn.sc.names.lookup x = some .globalImplicit := by rfl) (hd : (x == ("__debug__" : Str)) = false := by decide) :
    EX1 W fn (.Raise (some (.Call (.Name x np) [] [] cp)) none p) σ Q := by
  refine ⟨fun g A S P E hg I k ke => ?_⟩
  subst hg
  obtain ⟨mg, G, O⟩ := labs_own kk I e
  obtain ⟨bm, N, nm, qn, bs, hdct, sn, sub, ab, col, dd, k0, k1, k2, k3, k5, mN, hC, hN, hni, TL⟩ := O.obj
  refine wpAny_Raise_call_subT (C := labOf kk) (nm := nm) (q := qn) (N := N) (bs := bs) (bm := bm) (hdct := hdct) (sn := sn) (sub := sub) (ab := ab) (col := col) (dd := dd) (k0 := k0) (k1 := k1) (k2 := k2) (k3 := k3) (k5 := k5) (bmB := [.type "Exception", .type "BaseException", .type "object"])
    PySem.F.excBase_Exception (TL.hasType (by decide)) I.hd rfl hni (name_here I (t := S.toks) e ⟨rfl, evalArgs_empty ⟨rfl, Nat.zero_le _, hC, hN, TL, fun h' a hm => ?_⟩⟩ hk hx hd)
  obtain ⟨t, ht, _⟩ := hm.there
  refine ke a _ kk σ h (I.grows (S' := { S with heap := h' }) hm.keeps rfl rfl) ⟨?_, .inl ⟨t, ht⟩⟩
  cases hq : g.B.get? a with
  | none => rfl
  | some o' => have := I.st a o' hq; rw [hm.new] at this; cases this

theorem note_exc {g : Cx} {A : Around} {S : Shared} {e : Addr} {kk : Bool} {P : Unit → Shared → Prop} {E : Value → Shared → Prop} (I : In W g A σ S) (hx : ExcAt g e kk S.heap)
    (h : ∀ h' a0, In W g A σ { S with heap := h' } → Heap.HeldW g.B (g.env :: g.outer) e (.ref (labOf kk)) a0 g.L h' → P () { S with heap := h' }) : wpAny W.M A (noteFrame (.ref e) g.env) P E S := by
  obtain ⟨hn, ⟨t, he⟩ | ⟨a0, ht⟩⟩ := hx
  · unfold noteFrame
    simp only [show g.env.frame = some g.L from rfl]
    refine wpAny_bind (wpAny_field he rfl (i := 1) (x := .none) rfl ?_)
    rw [if_neg (by decide)]
    refine wpAny_entryW (a0 := .ref t) I.fr I.ff rfl he I.st hn rfl (show 1 < 6 by decide) rfl fun h' hN => ?_
    obtain ⟨k1, k2, k3, k4⟩ := hN
    exact h h' _ (I.slots k4 k1 k2) ⟨k1, hn, k2, k3⟩
  · refine wpAny_noteFrame_againW rfl ht ?_
    exact h S.heap a0 I ⟨I.st, hn, I.ff, ht⟩
theorem catch_exc {g : Cx} {A : Around} {S : Shared} {e : Addr} {kk : Bool} {x : Str} {np pp hp : Pos} {P : Flow → Shared → Prop} {E : Value → Shared → Prop} (I : In W g A σ S) (hx : ExcAt g e kk S.heap) (en : nsIn W.K mainGlobals x = some (some (.ref (labOf kk))))
    (hk : g.fn.sc.kind = .function) (hxx : g.fn.sc.names.lookup x = some .globalImplicit) (hd : (x == ("__debug__" : Str)) = false) (h : ∀ h', In W g A σ { S with heap := h' } → P .next { S with heap := h' }) :
    wpAny W.M A (noteFrame (.ref e) g.env) (fun _ s₂ => wpAny W.M A (setFlight (.ref e) none) (fun _ s₃ => wpAny W.M A (handleBy (.ref e) g.env [.ExceptHandler (some (.Name x np)) none [.Pass pp] hp]) P E s₃) E s₂) E S := by
  refine note_exc I hx fun h1 a0 I1 H1 => ?_
  refine wpAny_landsW H1 fun h2 F2 U2 => ?_
  have I2 : In W g A σ { S with heap := h2 } := I1.slots U2 F2.1 F2.2.2.1
  refine wpAny_handleBy_cons (codeAny_handlers_test (name_here I2 (t := S.toks) en ?_ hk hxx hd)) (by intro q; cases q)
  obtain ⟨mg, G, O⟩ := labs_own kk I2 en
  obtain ⟨bm, N, nm, qn, bs, hdct, sn, sub, ab, col, dd, k0, k1, k2, k3, k5, mN, hC, hN, hni, TL⟩ := O.obj
  obtain ⟨ob, hob, hobc⟩ := F2.there
  refine wpAny_excMatches_sub_self hC hob hobc (TL.hasType (by decide)) (codeAny_handlers_suite ?_)
  refine lands_againW F2 fun h3 F3 U3 => ?_
  have I3 : In W g A σ { S with heap := h3 } := I2.slots U3 F3.1 F3.2.2.1
  exact wpAny_execs_cons (wpAny_Pass (wpAny_execs_nil (h h3 I3)))
theorem EX1.try_ {body : List Stmt} {x : Str} {np pp hp p : Pos} {Q : AF → St → Prop} (kk : Bool) (en : nsIn W.K mainGlobals x = some (some (.ref (labOf kk)))) (h : EX W fn body σ fun fl σ' => match fl with | .exc k => k = kk ∧ Q .next σ' | fl => Q fl σ')
    (hk : fn.sc.kind = .function := by rfl) (hx : fn.sc.names.lookup x = some .globalImplicit := by rfl) (hd : (x == ("__debug__" : Str)) = false := by decide) :
    EX1 W fn (.Try body [.ExceptHandler (some (.Name x np)) none [.Pass pp] hp] [] [] p) σ Q := by
  refine ⟨fun g A S P E hg I k ke => ?_⟩
  subst hg
  refine wpAny_Try_except (h.run g A S _ _ rfl I (fun f S' fl σ' hq I' hf => ?_) fun e S' kk' σ' hq I' hx' => ?_)
  · cases fl with
    | next => cases hf; exact wpAny_execs_nil (k _ _ .next _ hq I' rfl)
    | brk => cases hf; exact k _ _ .brk _ hq I' rfl
    | cont => cases hf; exact k _ _ .cont _ hq I' rfl
    | ret a => obtain ⟨v, rfl, r⟩ := hf; exact k _ _ (.ret a) _ hq I' ⟨v, rfl, r⟩
    | exc _ => exact hf.elim
  · obtain ⟨rfl, hq⟩ := hq
    exact catch_exc I' hx' en hk hx hd fun h' I2 => k _ _ .next _ hq I2 rfl

theorem leave_loop {g : Cx} {A : Around} {S : Shared} {e : Addr} {kk : Bool} {E : Value → Shared → Prop} {E0 : Value → Shared → Prop} (I : In W g A σ S) (hx : ExcAt g e kk S.heap) (h : ∀ h', In W g A σ { S with heap := h' } → ExcAt g e kk h' → E (.ref e) { S with heap := h' }) :
    notedBy W.M A g.env (fun e s' => cameBackBy W.M A g.env E e s') (.ref e) S := by
  unfold notedBy
  refine note_exc I hx fun h1 a0 I1 H1 => ?_
  unfold cameBackBy
  obtain ⟨f1, f2, f3, oe, vs, T, oT, ts, he, hcls, hd, h1', hnT, hTe, hT, hdT, h3⟩ := H1
  have hsz3 : 3 < ts.size := (Array.getElem?_eq_some_iff.mp h3).1
  have other : ∀ b, b ≠ T → (h1.update T (Obj.mapFields (·.setIfInBounds 3 (rawInt g.L)))).get? b = h1.get? b := fun b hb => Heap.get?_update_other _ _ (Ne.symm hb)
  have noRecord : ∀ b o, h1.get? b = some o → (∀ vs, o.data ≠ .fields vs) → b ≠ T := fun b o hb hnf q => by
    rw [q, hT] at hb; injection hb with hb; subst hb; exact hnf ts hdT
  refine wpAny_bind (wpAny_field he hd h1' ?_)
  rw [if_neg (show ¬ ((Value.ref T == Value.none) = true) from by simp)]
  unfold setFlight
  refine wpAny_bind (wpAny_field he hd h1' ?_)
  rw [if_pos (show (Value.ref T != Value.none) = true from by simp)]
  have st : g.B.StaysIn (h1.update T (Obj.mapFields (·.setIfInBounds 3 (rawInt g.L)))) := fun b o hbo => (other b fun q => by rw [q, hnT] at hbo; cases hbo).trans (f1 b o hbo)
  have ff : (h1.update T (Obj.mapFields (·.setIfInBounds 3 (rawInt g.L)))).FunFrames g.B (g.env :: g.outer) := f3.of_keeps fun b o hb hnf => ⟨o, (other b (noRecord b o hb hnf)).trans hb, rfl⟩
  have up : h1.UpToSlots (h1.update T (Obj.mapFields (·.setIfInBounds 3 (rawInt g.L)))) := fun b o hb hn => ⟨o.slots, (other b (noRecord b o hb hn)).trans hb⟩
  refine wpAny_setField hT hdT hsz3 (h _ (I1.slots up st ff) ⟨f2, .inr ⟨a0, ?_⟩⟩)
  exact ⟨oe, vs, T, _, _, (other e (Ne.symm hTe)).trans he, hcls, hd, h1', hnT, hTe, Heap.get?_update_self _ hT (Obj.isFreed_of_fields (Obj.data_mapFields hdT _)), Obj.data_mapFields hdT _, by simp [hsz3]; rfl⟩

abbrev qWh (Jn : St → Prop) (Q : AF → St → Prop) (fl : AF) (σ : St) : Prop := match fl with
        | .next | .cont => Jn σ
        | .brk => Q .next σ
        | .ret a => Q (.ret a) σ
        | .exc k => Q (.exc k) σ
theorem EX1.while_ {test : Expr} {body : List Stmt} {p : Pos} {Q : AF → St → Prop} (J : Nat → St → Prop)
    (turn : ∀ n σ, J n σ → TR W fn test σ fun c σ1 => if c then EX W fn body σ1 (qWh (fun σ2 => ∃ m, m < n ∧ J m σ2) Q) else Q .next σ1) (n : Nat) (h : J n σ) : EX1 W fn (.While test body [] p) σ Q := by
  refine ⟨fun g A S P E hg I k ke => ?_⟩
  subst hg
  refine wpAny_While (codeAny_whileLoop (fun n s => ∃ σ, J n σ ∧ In W g A σ s) (fun n s hI => ?_) n ⟨σ, h, I⟩)
  obtain ⟨σ0, hJ, I0⟩ := hI
  refine (turn n σ0 hJ).run g A s _ _ rfl I0 fun c S1 σ1 h1 I1 s1 => ?_
  cases c with
  | false => exact wpAny_execs_nil (k _ _ .next _ h1 I1 rfl)
  | true =>
    refine h1.run g A S1 _ _ rfl I1 (fun f S2 fl σ2 hq I2 hf => ?_) fun e S2 kk σ2 hq I2 hx => leave_loop (E0 := E) I2 hx fun h' I3 hx3 => ke e _ kk σ2 hq I3 hx3
    cases fl with
    | next => cases hf; obtain ⟨m, hm, hj⟩ := hq; exact ⟨m, hm, σ2, hj, I2⟩
    | cont => cases hf; obtain ⟨m, hm, hj⟩ := hq; exact ⟨m, hm, σ2, hj, I2⟩
    | brk => cases hf; exact k _ _ .next _ hq I2 rfl
    | ret a => obtain ⟨v, rfl, r⟩ := hf; exact k _ _ (.ret a) _ hq I2 ⟨v, rfl, r⟩
    | exc _ => exact hf.elim
theorem EX1.once {test : Expr} {body : List Stmt} {p : Pos} {Q : AF → St → Prop}
    (h : TR W fn test σ fun c σ1 => if c then EX W fn body σ1 (qWh (fun _ => False) Q) else Q .next σ1) : EX1 W fn (.While test body [] p) σ Q := by
  refine EX1.while_ (fun n s => s = σ) (fun n s hs => ?_) 0 rfl
  subst hs
  refine h.mono fun c σ1 h1 => ?_
  cases c with
  | false => exact h1
  | true => exact h1.mono fun fl σ2 h2 => by cases fl <;> first | exact h2 | exact h2.elim
theorem EX.weak {ss : List Stmt} {l : List (Str × AV)} {Q : AF → St → Prop} (h : EX W fn ss { σ with loc := l } Q) (k : ∀ p ∈ l, σ.loc.lookup p.1 = some p.2) : EX W fn ss σ Q := ⟨fun g A S P E hg I k1 k2 =>
  h.run g A S P E hg (I.drop fun x a e => by
    have : (x, a) ∈ l := by
      clear h k
      induction l with
      | nil => cases e
      | cons p r ih =>
        obtain ⟨y, v⟩ := p
        rw [List.lookup_cons] at e
        by_cases q : x = y
        · subst q; rw [beq_self_eq_true] at e; cases e; exact .head _
        · rw [show (x == y) = false from beq_eq_false_iff_ne.mpr q] at e; exact .tail _ (ih e)
    exact k _ this) k1 k2⟩
theorem TR.true_ {p : Pos} {kd} {Q : Bool → St → Prop} (h : Q true σ) : TR W fn (.Constant (.bool true) kd p) σ Q := TR.plain (EV.cbool ⟨true, rfl, h⟩)
end
end
noncomputable section
open PySem PySem.W PySem.Calls PyProof.Rows Builtin
open H (Sets fEnd KF kf_in QV looseV PW)

noncomputable def sName : Stmt → Str | .FunctionDef n .. => n | _ => default
noncomputable def sParams : Stmt → Arguments | .FunctionDef _ a .. => a | _ => default
noncomputable def sBody : Stmt → List Stmt | .FunctionDef _ _ b .. => b | _ => []
noncomputable def sScope : Stmt → Scope | .FunctionDef _ _ _ _ _ _ sc .. => sc | _ => default
theorem consL {n : Nat} {vals : List Value} (h : vals.length = n + 1) : ∃ a t, vals = a :: t ∧ t.length = n := by
  cases vals with
  | nil => cases h
  | cons a t => exact ⟨a, t, rfl, Nat.succ.inj h⟩
theorem len1 {vals : List Value} (h : vals.length = 1) : ∃ a, vals = [a] := by
  obtain ⟨a, t, rfl, e⟩ := consL h
  obtain rfl := List.length_eq_zero_iff.mp e
  exact ⟨a, rfl⟩
theorem len2 {vals : List Value} (h : vals.length = 2) : ∃ a b, vals = [a, b] := by
  obtain ⟨a, t, rfl, e⟩ := consL h
  obtain ⟨b, rfl⟩ := len1 e
  exact ⟨a, b, rfl⟩
theorem len4 {vals : List Value} (h : vals.length = 4) : ∃ a b c d, vals = [a, b, c, d] := by
  obtain ⟨a, t, rfl, e⟩ := consL h
  obtain ⟨b, t, rfl, e2⟩ := consL e
  obtain ⟨c, d, rfl⟩ := len2 e2
  exact ⟨a, b, c, d, rfl⟩
theorem CallOK.of2 {W : Wx} {fn : Fn} {name : Str} {params : Arguments} {body : List Stmt} {dV kV doc pm ct oc : Value} {an od : Option Addr} {osl : Array (Option Value)} {avs : List AV} {ob : Option (Addr × Addr)} {fl : List (Str × AV)} {ns : List Str} {Q : AV → List (Str × AV) → Prop}
    (ho : W.K.lookup fn.a = some ⟨oc, od, .func (fnOf name fn.q params body fn.sc dV kV doc pm an fn.cd ct), osl⟩) (hcd : codeIn W.K fn.cd fn.q = true)
    (hbind : ∀ vals : List Value, vals.length = ns.length → bindArgs (fnOf name fn.q params body fn.sc dV kV doc pm an fn.cd ct) ⟨vals, []⟩ = pure (ns.zip vals)) (hnd : decide ns.Nodup = true)
    (hloc : (ns.all fun y => fn.sc.names.lookup y == some .local) = true) (hk : (fn.sc.kind == .function && fn.sc.names.all (fun x => x.2 != .cell) && !fn.sc.isCoroutine && !fn.sc.isGenerator) = true)
    (hlen : ns.length = avs.length) (h : EX W fn body ⟨ns.zip avs, ob, fl, none⟩ fun r σ' => ∃ a, (r = .ret a ∨ (r = .next ∧ a = .none)) ∧ σ'.ob = ob ∧ Q a σ'.fl) : CallOK W fn.a fn.rm avs ob fl Q := by
  simp only [Bool.and_eq_true, beq_iff_eq, List.all_eq_true, bne_iff_ne, Bool.not_eq_true'] at hk
  obtain ⟨⟨⟨k1, k2⟩, k3⟩, k4⟩ := hk
  exact CallOK.of ho hcd (fun vals e => hbind vals (e.trans hlen.symm)) hlen (of_decide_eq_true hnd) (fun y hy => beq_iff_eq.mp (List.all_eq_true.mp hloc y hy)) k1 k2 k3 k4 h

abbrev qEnd (ob : Option (Addr × Addr)) (Q : AV → List (Str × AV) → Prop) (r : AF) (σ' : St) : Prop := ∃ a, (r = .ret a ∨ (r = .next ∧ a = .none)) ∧ σ'.ob = ob ∧ Q a σ'.fl
def CallT (fn : Fn) (s : Stmt) (a rm : Addr) (ns : List Str) : Prop := ∀ {W : Wx} {avs : List AV} {ob : Option (Addr × Addr)} {fl : List (Str × AV)} {Q : AV → List (Str × AV) → Prop}, ns.length = avs.length → EX W fn (sBody s) ⟨ns.zip avs, ob, fl, none⟩ (qEnd ob Q) → CallOK W a rm avs ob fl Q
def bindD (fn : Fn) (s : Stmt) (pm : Value) (ns : List Str) : Prop := ∀ vals : List Value, vals.length = ns.length → bindArgs (fnOf (sName s) fn.q (sParams s) (sBody s) fn.sc .none .none .none pm none fn.cd .none) ⟨vals, []⟩ = pure (ns.zip vals)
theorem mkT {fn : Fn} {s : Stmt} {pm : Value} {a rm : Addr} {ns : List Str} (ha : fn = ⟨fn.q, fn.sc, a, fn.cd, rm⟩)
    (hb : bindD fn s pm ns) (ho : ∀ W : Wx, W.K.lookup a = some ⟨.type "function", none, .func (fnOf (sName s) fn.q (sParams s) (sBody s) fn.sc .none .none .none pm none fn.cd .none), #[]⟩) (hcd : ∀ W : Wx, codeIn W.K fn.cd fn.q = true)
    (hk : (decide ns.Nodup && (ns.all fun y => fn.sc.names.lookup y == some .local) && (fn.sc.kind == .function && fn.sc.names.all (fun x => x.2 != .cell) && !fn.sc.isCoroutine && !fn.sc.isGenerator)) = true) : CallT fn s a rm ns := by
  intro W avs ob fl Q hlen h
  simp only [Bool.and_eq_true (decide _ && _), Bool.and_eq_true (decide _)] at hk
  have ha' := congrArg Fn.a ha; have hr' := congrArg Fn.rm ha
  dsimp only at ha' hr'
  have := CallOK.of2 (W := W) (fn := fn) (Q := Q) (ha' ▸ ho W) (hcd W) hb hk.1.1 hk.1.2 hk.2 hlen h
  rw [ha', hr'] at this; exact this
noncomputable abbrev pB : Value := H.S "snowballstemmer.basestemmer" 194
noncomputable abbrev pE : Value := H.S "snowballstemmer.esperanto_stemmer" 473
noncomputable abbrev pL : Value := H.S "law_is0015_01" 2377
noncomputable def F_init : Fn := ⟨"BaseStemmer.__init__", sScope (H.st2 2 0), 35, .ref 34, 1⟩
theorem call_init : CallT F_init (H.st2 2 0) 35 1 ["self"] := mkT (pm := pB) rfl (fun v h => by obtain ⟨a, rfl⟩ := len1 h; kernel_rfl) (fun _ => by kernel_rfl) (fun _ => by kernel_rfl) (by kernel_rfl)
noncomputable def F_set_current : Fn := ⟨"BaseStemmer.set_current", sScope (H.st2 2 1), 42, .ref 41, 0⟩
theorem call_set_current : CallT F_set_current (H.st2 2 1) 42 0 ["self", "value"] := mkT (pm := pB) rfl (fun v h => by obtain ⟨a, b, rfl⟩ := len2 h; kernel_rfl) (fun _ => by kernel_rfl) (fun _ => by kernel_rfl) (by kernel_rfl)
noncomputable def F_get_current : Fn := ⟨"BaseStemmer.get_current", sScope (H.st2 2 2), 49, .ref 48, 0⟩
theorem call_get_current : CallT F_get_current (H.st2 2 2) 49 0 ["self"] := mkT (pm := pB) rfl (fun v h => by obtain ⟨a, rfl⟩ := len1 h; kernel_rfl) (fun _ => by kernel_rfl) (fun _ => by kernel_rfl) (by kernel_rfl)
noncomputable def F_in_grouping_b : Fn := ⟨"BaseStemmer.in_grouping_b", sScope (H.st2 2 6), 77, .ref 76, 0⟩
theorem call_in_grouping_b : CallT F_in_grouping_b (H.st2 2 6) 77 0 ["self", "s"] := mkT (pm := pB) rfl (fun v h => by obtain ⟨a, b, rfl⟩ := len2 h; kernel_rfl) (fun _ => by kernel_rfl) (fun _ => by kernel_rfl) (by kernel_rfl)
noncomputable def F_go_out_grouping_b : Fn := ⟨"BaseStemmer.go_out_grouping_b", sScope (H.st2 2 11), 112, .ref 111, 0⟩
theorem call_go_out_grouping_b : CallT F_go_out_grouping_b (H.st2 2 11) 112 0 ["self", "s"] := mkT (pm := pB) rfl (fun v h => by obtain ⟨a, b, rfl⟩ := len2 h; kernel_rfl) (fun _ => by kernel_rfl) (fun _ => by kernel_rfl) (by kernel_rfl)
noncomputable def F_find_among : Fn := ⟨"BaseStemmer.find_among", sScope (H.st2 2 14), 133, .ref 132, 0⟩
theorem call_find_among : CallT F_find_among (H.st2 2 14) 133 0 ["self", "v"] := mkT (pm := pB) rfl (fun v h => by obtain ⟨a, b, rfl⟩ := len2 h; kernel_rfl) (fun _ => by kernel_rfl) (fun _ => by kernel_rfl) (by kernel_rfl)
noncomputable def F_find_among_b : Fn := ⟨"BaseStemmer.find_among_b", sScope (H.st2 2 15), 140, .ref 139, 0⟩
theorem call_find_among_b : CallT F_find_among_b (H.st2 2 15) 140 0 ["self", "v"] := mkT (pm := pB) rfl (fun v h => by obtain ⟨a, b, rfl⟩ := len2 h; kernel_rfl) (fun _ => by kernel_rfl) (fun _ => by kernel_rfl) (by kernel_rfl)
noncomputable def F_replace_s : Fn := ⟨"BaseStemmer.replace_s", sScope (H.st2 2 16), 147, .ref 146, 0⟩
theorem call_replace_s : CallT F_replace_s (H.st2 2 16) 147 0 ["self", "c_bra", "c_ket", "s"] := mkT (pm := pB) rfl (fun v h => by obtain ⟨a, b, c, d, rfl⟩ := len4 h; kernel_rfl) (fun _ => by kernel_rfl) (fun _ => by kernel_rfl) (by kernel_rfl)
noncomputable def F_slice_from : Fn := ⟨"BaseStemmer.slice_from", sScope (H.st2 2 17), 154, .ref 153, 1⟩
theorem call_slice_from : CallT F_slice_from (H.st2 2 17) 154 1 ["self", "s"] := mkT (pm := pB) rfl (fun v h => by obtain ⟨a, b, rfl⟩ := len2 h; kernel_rfl) (fun _ => by kernel_rfl) (fun _ => by kernel_rfl) (by kernel_rfl)
noncomputable def F_slice_del : Fn := ⟨"BaseStemmer.slice_del", sScope (H.st2 2 18), 161, .ref 160, 2⟩
theorem call_slice_del : CallT F_slice_del (H.st2 2 18) 161 2 ["self"] := mkT (pm := pB) rfl (fun v h => by obtain ⟨a, rfl⟩ := len1 h; kernel_rfl) (fun _ => by kernel_rfl) (fun _ => by kernel_rfl) (by kernel_rfl)
noncomputable def F_stemWord : Fn := ⟨"BaseStemmer.stemWord", sScope (H.st2 2 22), 189, .ref 188, 5⟩
theorem call_stemWord : CallT F_stemWord (H.st2 2 22) 189 5 ["self", "word"] := mkT (pm := pB) rfl (fun v h => by obtain ⟨a, b, rfl⟩ := len2 h; kernel_rfl) (fun _ => by kernel_rfl) (fun _ => by kernel_rfl) (by kernel_rfl)
noncomputable def F_r_canonical_form : Fn := ⟨"EsperantoStemmer.r_canonical_form", sScope (H.st2 6 3), 240, .ref 239, 3⟩
theorem call_r_canonical_form : CallT F_r_canonical_form (H.st2 6 3) 240 3 ["self"] := mkT (pm := pE) rfl (fun v h => by obtain ⟨a, rfl⟩ := len1 h; kernel_rfl) (fun _ => by kernel_rfl) (fun _ => by kernel_rfl) (by kernel_rfl)
noncomputable def F_r_initial_apostrophe : Fn := ⟨"EsperantoStemmer.r_initial_apostrophe", sScope (H.st2 6 4), 247, .ref 246, 3⟩
theorem call_r_initial_apostrophe : CallT F_r_initial_apostrophe (H.st2 6 4) 247 3 ["self"] := mkT (pm := pE) rfl (fun v h => by obtain ⟨a, rfl⟩ := len1 h; kernel_rfl) (fun _ => by kernel_rfl) (fun _ => by kernel_rfl) (by kernel_rfl)
noncomputable def F_r_pronoun : Fn := ⟨"EsperantoStemmer.r_pronoun", sScope (H.st2 6 5), 254, .ref 253, 3⟩
theorem call_r_pronoun : CallT F_r_pronoun (H.st2 6 5) 254 3 ["self"] := mkT (pm := pE) rfl (fun v h => by obtain ⟨a, rfl⟩ := len1 h; kernel_rfl) (fun _ => by kernel_rfl) (fun _ => by kernel_rfl) (by kernel_rfl)
noncomputable def F_r_final_apostrophe : Fn := ⟨"EsperantoStemmer.r_final_apostrophe", sScope (H.st2 6 6), 261, .ref 260, 3⟩
theorem call_r_final_apostrophe : CallT F_r_final_apostrophe (H.st2 6 6) 261 3 ["self"] := mkT (pm := pE) rfl (fun v h => by obtain ⟨a, rfl⟩ := len1 h; kernel_rfl) (fun _ => by kernel_rfl) (fun _ => by kernel_rfl) (by kernel_rfl)
noncomputable def F_r_ujn_suffix : Fn := ⟨"EsperantoStemmer.r_ujn_suffix", sScope (H.st2 6 7), 268, .ref 267, 3⟩
theorem call_r_ujn_suffix : CallT F_r_ujn_suffix (H.st2 6 7) 268 3 ["self"] := mkT (pm := pE) rfl (fun v h => by obtain ⟨a, rfl⟩ := len1 h; kernel_rfl) (fun _ => by kernel_rfl) (fun _ => by kernel_rfl) (by kernel_rfl)
noncomputable def F_r_uninflected : Fn := ⟨"EsperantoStemmer.r_uninflected", sScope (H.st2 6 8), 275, .ref 274, 3⟩
theorem call_r_uninflected : CallT F_r_uninflected (H.st2 6 8) 275 3 ["self"] := mkT (pm := pE) rfl (fun v h => by obtain ⟨a, rfl⟩ := len1 h; kernel_rfl) (fun _ => by kernel_rfl) (fun _ => by kernel_rfl) (by kernel_rfl)
noncomputable def F_r_merged_numeral : Fn := ⟨"EsperantoStemmer.r_merged_numeral", sScope (H.st2 6 9), 282, .ref 281, 3⟩
theorem call_r_merged_numeral : CallT F_r_merged_numeral (H.st2 6 9) 282 3 ["self"] := mkT (pm := pE) rfl (fun v h => by obtain ⟨a, rfl⟩ := len1 h; kernel_rfl) (fun _ => by kernel_rfl) (fun _ => by kernel_rfl) (by kernel_rfl)
noncomputable def F_r_correlative : Fn := ⟨"EsperantoStemmer.r_correlative", sScope (H.st2 6 10), 289, .ref 288, 3⟩
theorem call_r_correlative : CallT F_r_correlative (H.st2 6 10) 289 3 ["self"] := mkT (pm := pE) rfl (fun v h => by obtain ⟨a, rfl⟩ := len1 h; kernel_rfl) (fun _ => by kernel_rfl) (fun _ => by kernel_rfl) (by kernel_rfl)
noncomputable def F_r_long_word : Fn := ⟨"EsperantoStemmer.r_long_word", sScope (H.st2 6 11), 296, .ref 295, 3⟩
theorem call_r_long_word : CallT F_r_long_word (H.st2 6 11) 296 3 ["self"] := mkT (pm := pE) rfl (fun v h => by obtain ⟨a, rfl⟩ := len1 h; kernel_rfl) (fun _ => by kernel_rfl) (fun _ => by kernel_rfl) (by kernel_rfl)
noncomputable def F_r_standard_suffix : Fn := ⟨"EsperantoStemmer.r_standard_suffix", sScope (H.st2 6 12), 303, .ref 302, 3⟩
theorem call_r_standard_suffix : CallT F_r_standard_suffix (H.st2 6 12) 303 3 ["self"] := mkT (pm := pE) rfl (fun v h => by obtain ⟨a, rfl⟩ := len1 h; kernel_rfl) (fun _ => by kernel_rfl) (fun _ => by kernel_rfl) (by kernel_rfl)
noncomputable def F_stem : Fn := ⟨"EsperantoStemmer._stem", sScope (H.st2 6 13), 310, .ref 309, 4⟩
theorem call_stem : CallT F_stem (H.st2 6 13) 310 4 ["self"] := mkT (pm := pE) rfl (fun v h => by obtain ⟨a, rfl⟩ := len1 h; kernel_rfl) (fun _ => by kernel_rfl) (fun _ => by kernel_rfl) (by kernel_rfl)
noncomputable def F_law_vowels : Fn := ⟨"_law_vowels", sScope (H.st1 10), 709, .ref 708, 0⟩
theorem call_law_vowels : CallT F_law_vowels (H.st1 10) 709 0 [] := mkT (pm := pL) rfl (fun v h => by obtain rfl := List.length_eq_zero_iff.mp h; kernel_rfl) (fun _ => by kernel_rfl) (fun _ => by kernel_rfl) (by kernel_rfl)
noncomputable def F_law_digits : Fn := ⟨"_law_digits", sScope (H.st1 11), 716, .ref 715, 0⟩
theorem call_law_digits : CallT F_law_digits (H.st1 11) 716 0 [] := mkT (pm := pL) rfl (fun v h => by obtain rfl := List.length_eq_zero_iff.mp h; kernel_rfl) (fun _ => by kernel_rfl) (fun _ => by kernel_rfl) (by kernel_rfl)
noncomputable def F_law_heads : Fn := ⟨"_law_heads", sScope (H.st1 13), 724, .ref 723, 0⟩
theorem call_law_heads : CallT F_law_heads (H.st1 13) 724 0 [] := mkT (pm := pL) rfl (fun v h => by obtain rfl := List.length_eq_zero_iff.mp h; kernel_rfl) (fun _ => by kernel_rfl) (fun _ => by kernel_rfl) (by kernel_rfl)
noncomputable def F_law_shapes : Fn := ⟨"_law_shapes", sScope (H.st1 16), 733, .ref 732, 0⟩
theorem call_law_shapes : CallT F_law_shapes (H.st1 16) 733 0 [] := mkT (pm := pL) rfl (fun v h => by obtain rfl := List.length_eq_zero_iff.mp h; kernel_rfl) (fun _ => by kernel_rfl) (fun _ => by kernel_rfl) (by kernel_rfl)
noncomputable def F_law_adds : Fn := ⟨"_law_adds", sScope (H.st1 17), 740, .ref 739, 0⟩
theorem call_law_adds : CallT F_law_adds (H.st1 17) 740 0 [] := mkT (pm := pL) rfl (fun v h => by obtain rfl := List.length_eq_zero_iff.mp h; kernel_rfl) (fun _ => by kernel_rfl) (fun _ => by kernel_rfl) (by kernel_rfl)
noncomputable def F_law_marked : Fn := ⟨"_law_marked", sScope (H.st1 19), 748, .ref 747, 0⟩
theorem call_law_marked : CallT F_law_marked (H.st1 19) 748 0 ["word"] := mkT (pm := pL) rfl (fun v h => by obtain ⟨a, rfl⟩ := len1 h; kernel_rfl) (fun _ => by kernel_rfl) (fun _ => by kernel_rfl) (by kernel_rfl)
noncomputable def F_law_hatted : Fn := ⟨"_law_hatted", sScope (H.st1 20), 755, .ref 754, 0⟩
theorem call_law_hatted : CallT F_law_hatted (H.st1 20) 755 0 ["word"] := mkT (pm := pL) rfl (fun v h => by obtain ⟨a, rfl⟩ := len1 h; kernel_rfl) (fun _ => by kernel_rfl) (fun _ => by kernel_rfl) (by kernel_rfl)
noncomputable def F_law_among : Fn := ⟨"_law_among", sScope (H.st1 21), 762, .ref 761, 0⟩
theorem call_law_among : CallT F_law_among (H.st1 21) 762 0 ["word", "ends"] := mkT (pm := pL) rfl (fun v h => by obtain ⟨a, b, rfl⟩ := len2 h; kernel_rfl) (fun _ => by kernel_rfl) (fun _ => by kernel_rfl) (by kernel_rfl)
noncomputable def F_law_left : Fn := ⟨"_law_left", sScope (H.st1 22), 767, .ref 766, 1⟩
theorem call_law_left : CallT F_law_left (H.st1 22) 767 1 ["word", "place"] := mkT (pm := pL) rfl (fun v h => by obtain ⟨a, b, rfl⟩ := len2 h; kernel_rfl) (fun _ => by kernel_rfl) (fun _ => by kernel_rfl) (by kernel_rfl)
noncomputable def F_law_again : Fn := ⟨"_law_again", sScope (H.st1 23), 772, .ref 771, 2⟩
theorem call_law_again : CallT F_law_again (H.st1 23) 772 2 ["word"] := mkT (pm := pL) rfl (fun v h => by obtain ⟨a, rfl⟩ := len1 h; kernel_rfl) (fun _ => by kernel_rfl) (fun _ => by kernel_rfl) (by kernel_rfl)
noncomputable def F_law_word : Fn := ⟨"_law_word", sScope (H.st1 24), 777, .ref 776, 1⟩
theorem call_law_word : CallT F_law_word (H.st1 24) 777 1 ["script"] := mkT (pm := pL) rfl (fun v h => by obtain ⟨a, rfl⟩ := len1 h; kernel_rfl) (fun _ => by kernel_rfl) (fun _ => by kernel_rfl) (by kernel_rfl)
noncomputable def F_law : Fn := ⟨"law", sScope (H.st1 25), 782, .ref 781, 6⟩
theorem call_law : CallT F_law (H.st1 25) 782 6 ["script"] := mkT (pm := pL) rfl (fun v h => by obtain ⟨a, rfl⟩ := len1 h; kernel_rfl) (fun _ => by kernel_rfl) (fun _ => by kernel_rfl) (by kernel_rfl)
end
noncomputable section
open PySem PySem.W PySem.Calls PyProof.Rows Builtin
open H (Sets fEnd KF kf_in QV looseV PW)

structure Fd where
  cur : List Nat
  cu : Nat
  li : Nat
  lb : Nat
  br : Nat
  ke : Nat
noncomputable def FL (F : Fd) : List (Str × AV) := [("current", .str F.cur), ("cursor", .int F.cu), ("limit", .int F.li), ("limit_backward", .int F.lb), ("bra", .int F.br), ("ket", .int F.ke)]
theorem fl_current (F : Fd) : (FL F).lookup ("current" : Str) = some (.str F.cur) := by rfl
theorem fl_cursor (F : Fd) : (FL F).lookup ("cursor" : Str) = some (.int F.cu) := by rfl
theorem fl_limit (F : Fd) : (FL F).lookup ("limit" : Str) = some (.int F.li) := by rfl
theorem fl_lb (F : Fd) : (FL F).lookup ("limit_backward" : Str) = some (.int F.lb) := by rfl
theorem fl_bra (F : Fd) : (FL F).lookup ("bra" : Str) = some (.int F.br) := by rfl
theorem fl_ket (F : Fd) : (FL F).lookup ("ket" : Str) = some (.int F.ke) := by rfl
theorem put_current (F : Fd) (l : List Nat) : putF "current" (.str l) (FL F) = FL { F with cur := l } := by rfl
theorem put_cursor (F : Fd) (n : Nat) {i : Int} (h : i = n) : putF "cursor" (.int i) (FL F) = FL { F with cu := n } := by subst h; rfl
theorem put_limit (F : Fd) (n : Nat) {i : Int} (h : i = n) : putF "limit" (.int i) (FL F) = FL { F with li := n } := by subst h; rfl
theorem put_lb (F : Fd) (n : Nat) {i : Int} (h : i = n) : putF "limit_backward" (.int i) (FL F) = FL { F with lb := n } := by subst h; rfl
theorem put_bra (F : Fd) (n : Nat) {i : Int} (h : i = n) : putF "bra" (.int i) (FL F) = FL { F with br := n } := by subst h; rfl
theorem put_ket (F : Fd) (n : Nat) {i : Int} (h : i = n) : putF "ket" (.int i) (FL F) = FL { F with ke := n } := by subst h; rfl
theorem FL_len (F : Fd) : (FL F).length ≤ 100 := by show 6 ≤ 100; decide
noncomputable abbrev Sm (x dx : Addr) (F : Fd) (loc : List (Str × AV)) : St := ⟨loc, some (x, dx), FL F, none⟩

theorem nf_current {W : Wx} : findIn W.K (.ref 674) "current" = some none := by kernel_rfl
theorem nf_cursor {W : Wx} : findIn W.K (.ref 674) "cursor" = some none := by kernel_rfl
theorem nf_limit {W : Wx} : findIn W.K (.ref 674) "limit" = some none := by kernel_rfl
theorem nf_lb {W : Wx} : findIn W.K (.ref 674) "limit_backward" = some none := by kernel_rfl
theorem nf_bra {W : Wx} : findIn W.K (.ref 674) "bra" = some none := by kernel_rfl
theorem nf_ket {W : Wx} : findIn W.K (.ref 674) "ket" = some none := by kernel_rfl
theorem g_lab0 {W : Wx} : nsIn W.K mainGlobals "lab0" = some (some (.ref (labOf false))) := by kernel_rfl
theorem g_lab1 {W : Wx} : nsIn W.K mainGlobals "lab1" = some (some (.ref (labOf true))) := by kernel_rfl
theorem g_esp {W : Wx} : nsIn W.K mainGlobals "EsperantoStemmer" = some (some (.ref 674)) := by kernel_rfl

structure MS (fn : Fn) : Prop where
  self : fn.sc.names.lookup ("self" : Str) = some .local
  kind : fn.sc.kind = .function

section
variable {W : Wx} {fn : Fn} {x dx : Addr} {F : Fd} {loc : List (Str × AV)} {np p : Pos}
theorem EV.self (M : MS fn) (hs : loc.lookup ("self" : Str) = some (.val (.ref x))) {Q : AV → St → Prop} (h : Q (.val (.ref x)) (Sm x dx F loc)) : EV W fn (.Name "self" np) (Sm x dx F loc) Q := EV.name hs h M.self (by decide)
theorem EV.current (M : MS fn) (hs : loc.lookup ("self" : Str) = some (.val (.ref x))) {Q : AV → St → Prop} (h : Q (.str F.cur) (Sm x dx F loc)) : EV W fn (.Attribute (.Name "self" np) "current" p) (Sm x dx F loc) Q := EV.attr (EV.self M hs ⟨_, _, _, rfl, rfl, fl_current F, rfl, h⟩) nf_current
theorem EV.cursor (M : MS fn) (hs : loc.lookup ("self" : Str) = some (.val (.ref x))) {Q : AV → St → Prop} (h : Q (.int F.cu) (Sm x dx F loc)) : EV W fn (.Attribute (.Name "self" np) "cursor" p) (Sm x dx F loc) Q := EV.attr (EV.self M hs ⟨_, _, _, rfl, rfl, fl_cursor F, rfl, h⟩) nf_cursor
theorem EV.limit (M : MS fn) (hs : loc.lookup ("self" : Str) = some (.val (.ref x))) {Q : AV → St → Prop} (h : Q (.int F.li) (Sm x dx F loc)) : EV W fn (.Attribute (.Name "self" np) "limit" p) (Sm x dx F loc) Q := EV.attr (EV.self M hs ⟨_, _, _, rfl, rfl, fl_limit F, rfl, h⟩) nf_limit
theorem EV.lb (M : MS fn) (hs : loc.lookup ("self" : Str) = some (.val (.ref x))) {Q : AV → St → Prop} (h : Q (.int F.lb) (Sm x dx F loc)) : EV W fn (.Attribute (.Name "self" np) "limit_backward" p) (Sm x dx F loc) Q := EV.attr (EV.self M hs ⟨_, _, _, rfl, rfl, fl_lb F, rfl, h⟩) nf_lb
theorem EV.bra (M : MS fn) (hs : loc.lookup ("self" : Str) = some (.val (.ref x))) {Q : AV → St → Prop} (h : Q (.int F.br) (Sm x dx F loc)) : EV W fn (.Attribute (.Name "self" np) "bra" p) (Sm x dx F loc) Q := EV.attr (EV.self M hs ⟨_, _, _, rfl, rfl, fl_bra F, rfl, h⟩) nf_bra
theorem EV.ket (M : MS fn) (hs : loc.lookup ("self" : Str) = some (.val (.ref x))) {Q : AV → St → Prop} (h : Q (.int F.ke) (Sm x dx F loc)) : EV W fn (.Attribute (.Name "self" np) "ket" p) (Sm x dx F loc) Q := EV.attr (EV.self M hs ⟨_, _, _, rfl, rfl, fl_ket F, rfl, h⟩) nf_ket

theorem EX1.setF {name : Str} {p' : Pos} {e : Expr} {Q : AF → St → Prop} (M : MS fn) (hs : loc.lookup ("self" : Str) = some (.val (.ref x))) (hf : findIn W.K (.ref 674) name = some none)
    (h : EV W fn e (Sm x dx F loc) fun a σ' => ∃ F1 F2, σ' = Sm x dx F1 loc ∧ putF name a (FL F1) = FL F2 ∧ Q .next (Sm x dx F2 loc))
    (hsw : ∀ env, swapsWith e (some (.Attribute (.Name "self" np) name p')) p.line env = pure false := by intro env; rfl) : EX1 W fn (.Assign [.Attribute (.Name "self" np) name p'] e p) (Sm x dx F loc) Q := by
  refine EX1.setattr (h.mono fun a σ' hh => ?_) hf hsw
  obtain ⟨F1, F2, rfl, e1, hq⟩ := hh
  refine EV.self M hs ⟨x, dx, rfl, rfl, FL_len _, ?_⟩
  show Q .next ⟨loc, some (x, dx), putF name a (FL F1), none⟩
  rw [e1]; exact hq
theorem EX1.augF {name : Str} {p' : Pos} {op : Operator} {e : Expr} {c : AV} {Q : AF → St → Prop} (M : MS fn) (hs : loc.lookup ("self" : Str) = some (.val (.ref x))) (hf : findIn W.K (.ref 674) name = some none) (hl : (FL F).lookup name = some c) (hi : imA c = true)
    (h : EV W fn e (Sm x dx F loc) fun a σ' => ∃ F2 r, σ' = Sm x dx F loc ∧ iopA op c a = some r ∧ putF name r (FL F) = FL F2 ∧ Q .next (Sm x dx F2 loc)) : EX1 W fn (.AugAssign (.Attribute (.Name "self" np) name p') op e p) (Sm x dx F loc) Q := by
  refine EX1.augattr (EV.self M hs ⟨x, dx, c, rfl, rfl, hl, hi, h.mono fun a σ' hh => ?_⟩) hf
  obtain ⟨F2, r, rfl, e1, e2, hq⟩ := hh
  refine ⟨rfl, FL_len _, r, e1, ?_⟩
  show Q .next ⟨loc, some (x, dx), putF name r (FL F), none⟩
  rw [e2]; exact hq
theorem EX1.dec {p' p2 : Pos} {kd} {Q : AF → St → Prop} (M : MS fn) (hs : loc.lookup ("self" : Str) = some (.val (.ref x))) (h0 : 0 < F.cu) (h : Q .next (Sm x dx { F with cu := F.cu - 1 } loc)) :
    EX1 W fn (.AugAssign (.Attribute (.Name "self" np) "cursor" p') .Sub (.Constant (.int 1) kd p2) p) (Sm x dx F loc) Q :=
  EX1.augF M hs nf_cursor (fl_cursor F) rfl (EV.cint ⟨_, _, rfl, rfl, put_cursor F (F.cu - 1) (by omega), h⟩)
theorem EX1.saveR {v : Str} {p1 p2 p3 p4 p5 : Pos} {np2 : Pos} {Q : AF → St → Prop} (M : MS fn) (hs : loc.lookup ("self" : Str) = some (.val (.ref x))) (hx : fn.sc.names.lookup v = some .local) (h : Q .next (Sm x dx F ((v, .int ((F.li : Int) - F.cu)) :: loc))) :
    EX1 W fn (.Assign [.Name v p1] (.BinOp (.Attribute (.Name "self" np) "limit" p2) .Sub (.Attribute (.Name "self" np2) "cursor" p3) p4) p5) (Sm x dx F loc) Q :=
  EX1.assign (EV.bin (EV.limit M hs (EV.cursor M hs ⟨_, rfl, fun _ q => (nomatch q), h⟩))) hx
theorem EX1.backR {v : Str} {p1 p2 p3 p4 p5 : Pos} {np2 : Pos} {Q : AF → St → Prop} (M : MS fn) (hs : loc.lookup ("self" : Str) = some (.val (.ref x))) (hx : fn.sc.names.lookup v = some .local) {c : Nat} (hd : (v == ("__debug__" : Str)) = false) (hv : loc.lookup v = some (.int ((F.li : Int) - c))) (h : Q .next (Sm x dx { F with cu := c } loc)) :
    EX1 W fn (.Assign [.Attribute (.Name "self" np) "cursor" p1] (.BinOp (.Attribute (.Name "self" np2) "limit" p2) .Sub (.Name v p3) p4) p5) (Sm x dx F loc) Q :=
  EX1.setF M hs nf_cursor (EV.bin (EV.limit M hs (EV.name hv ⟨_, rfl, F, _, rfl, put_cursor F c (by lia), h⟩ hx hd)))

noncomputable def atb (F : Fd) (ch : Nat) : Bool := decide (F.lb < F.cu) && F.cur.getD (F.cu - 1) 0 == ch
structure Wf (F : Fd) : Prop where
  c : F.cu ≤ F.li
  l : F.li = F.cur.length
  z : F.cur.length ≤ 500
theorem TR.notb {p1 p2 p3 p4 p5 p6 p7 p8 p9 p10 n2 n3 n4 : Pos} {kd kd2} {s : Str} {ch : Nat} {Q : Bool → St → Prop} (M : MS fn) (hs : loc.lookup ("self" : Str) = some (.val (.ref x))) (wf : Wf F) (hc : s.cps.toList = [ch]) (h : Q (!atb F ch) (Sm x dx F loc)) :
    TR W fn (.BoolOp .Or [.Compare (.Attribute (.Name "self" np) "cursor" p1) [.LtE] [.Attribute (.Name "self" n2) "limit_backward" p2] p3,
      .Compare (.Subscript (.Attribute (.Name "self" n3) "current" p4) (.BinOp (.Attribute (.Name "self" n4) "cursor" p5) .Sub (.Constant (.int 1) kd p6) p7) p8) [.NotEq] [.Constant (.str s) kd2 p9] p10] p) (Sm x dx F loc) Q := by
  refine TR.or (TR.cmp (EV.cursor M hs (EV.lb M hs ⟨_, rfl, ?_⟩)))
  have w1 := wf.c
  have w2 := wf.l
  have w3 := wf.z
  by_cases hle : F.cu ≤ F.lb
  · rw [show decide ((F.cu : Int) ≤ F.lb) = true from by simpa using hle]
    refine ifP rfl ?_
    have : atb F ch = false := by unfold atb; rw [show decide (F.lb < F.cu) = false from by simpa using hle]; rfl
    rw [this] at h; exact h
  · rw [show decide ((F.cu : Int) ≤ F.lb) = false from by simpa using hle]
    refine ifN (by decide) ?_
    refine TR.cmp (EV.item (EV.current M hs ⟨_, rfl, by lia, EV.bin (EV.cursor M hs (EV.cint ⟨_, rfl, _, rfl, by lia, by lia, EV.cstr ⟨_, rfl, ?_⟩⟩))⟩))
    have e1 : ((F.cu : Int) - 1).toNat = F.cu - 1 := by lia
    rw [e1, hc]
    have : ([F.cur.getD (F.cu - 1) 0] != [ch]) = !atb F ch := by
      unfold atb
      rw [show decide (F.lb < F.cu) = true from by simp; exact Nat.not_le.mp ‹_›, Bool.true_and]
      show (!([F.cur.getD (F.cu - 1) 0] == [ch])) = _
      congr 1
      rw [Bool.eq_iff_iff, beq_iff_eq, beq_iff_eq]
      simp
    rw [this]; exact h
theorem atb_pos {F : Fd} {ch : Nat} (h : atb F ch = true) : F.lb < F.cu := of_decide_eq_true (Bool.and_eq_true_iff.mp h).1
theorem EX1.opt {t : Expr} {v : Str} {ch : Nat} {Q : AF → St → Prop} {p1 p2 p3 p4 p5 p6 p7 p8 p9 p10 p11 p12 p13 p14 p15 n2 n3 : Pos} {kd} (M : MS fn) (hs : loc.lookup ("self" : Str) = some (.val (.ref x))) (hx : fn.sc.names.lookup v = some .local) (hd : (v == ("__debug__" : Str)) = false)
    (lb : Str) (kk : Bool) (en : nsIn W.K mainGlobals lb = some (some (.ref (labOf kk)))) (hlb : fn.sc.names.lookup lb = some .globalImplicit) (hld : (lb == ("__debug__" : Str)) = false) (hv : loc.lookup v = some (.int ((F.li : Int) - F.cu)))
    (ht : ∀ Q' : Bool → St → Prop, Q' (!atb F ch) (Sm x dx F loc) → TR W fn t (Sm x dx F loc) Q') (h : Q .next (Sm x dx { F with cu := if atb F ch then F.cu - 1 else F.cu } loc)) :
    EX1 W fn (.Try [.If t [.Assign [.Attribute (.Name "self" np) "cursor" p1] (.BinOp (.Attribute (.Name "self" n2) "limit" p2) .Sub (.Name v p3) p4) p5, .Raise (some (.Call (.Name lb p6) [] [] p7)) none p8] [] p9,
      .AugAssign (.Attribute (.Name "self" n3) "cursor" p10) .Sub (.Constant (.int 1) kd p11) p12] [.ExceptHandler (some (.Name lb p13)) none [.Pass p14] p15] [] [] p) (Sm x dx F loc) Q := by
  refine EX1.try_ kk en (EX.cons (EX1.if_ (ht _ ?_))) M.kind hlb hld
  cases hb : atb F ch with
  | false =>
    rw [hb] at h
    refine EX.cons (EX1.backR M hs hx hd hv (EX.cons (EX1.raise kk en ⟨rfl, ?_⟩ M.kind hlb hld)))
    exact h
  | true =>
    rw [hb] at h
    have := atb_pos hb
    exact EX.nil (EX.cons (EX1.dec M hs (by lia) (EX.nil h)))
theorem EX1.hyph {t : Expr} {Q : AF → St → Prop} {p0 p1 p2 p3 p4 p5 p6 p7 p8 p9 p10 p11 p12 p13 p14 p15 p16 p17 p18 p19 n2 n3 : Pos} {kd kd2} {kc} (M : MS fn) (hs : loc.lookup ("self" : Str) = some (.val (.ref x)))
    (lb : Str) (kk : Bool) (en : nsIn W.K mainGlobals lb = some (some (.ref (labOf kk)))) (hlb : fn.sc.names.lookup lb = some .globalImplicit) (hld : (lb == ("__debug__" : Str)) = false) (F0 : F.lb ≤ F.cu)
    (ht : ∀ Q' : Bool → St → Prop, Q' (!atb F 45) (Sm x dx F loc) → TR W fn t (Sm x dx F loc) Q')
    (h : if F.cu ≤ F.lb then Q .next (Sm x dx F loc) else if atb F 45 then Q .next (Sm x dx { F with cu := F.cu - 1 } loc) else Q (.ret (.bool false)) (Sm x dx F loc)) :
    EX1 W fn (.While (.Constant (.bool true) kc p0) [.Try [.If (.Compare (.Attribute (.Name "self" np) "cursor" p1) [.Gt] [.Attribute (.Name "self" n2) "limit_backward" p2] p3) [.Raise (some (.Call (.Name lb p4) [] [] p5)) none p6] [] p7, .Break p8]
        [.ExceptHandler (some (.Name lb p9)) none [.Pass p10] p11] [] [] p12,
      .If t [.Return (some (.Constant (.bool false) kd2 p13)) p14] [] p15, .AugAssign (.Attribute (.Name "self" n3) "cursor" p16) .Sub (.Constant (.int 1) kd p17) p18, .Break p19] [] p) (Sm x dx F loc) Q := by
  refine EX1.once (TR.true_ ?_)
  rw [if_pos rfl]
  refine EX.cons (EX1.try_ kk en (EX.cons (EX1.if_ (TR.cmp (EV.cursor M hs (EV.lb M hs ⟨_, rfl, ?_⟩))))) M.kind hlb hld)
  by_cases hle : F.cu ≤ F.lb
  · rw [if_pos hle] at h
    rw [show decide ((F.lb : Int) < F.cu) = false from by simpa using hle]
    refine ifN (by decide) ?_
    exact EX.nil (EX.cons (EX1.brk h))
  · rw [if_neg hle] at h
    rw [show decide ((F.lb : Int) < F.cu) = true from by simp; omega]
    refine ifP rfl ?_
    refine EX.cons (EX1.raise kk en ⟨rfl, ?_⟩ M.kind hlb hld)
    refine EX.cons (EX1.if_ (ht _ ?_))
    cases hb : atb F 45 with
    | false =>
      rw [hb] at h
      exact EX.cons (EX1.ret (EV.cbool h))
    | true =>
      rw [hb] at h
      have := atb_pos hb
      exact EX.nil (EX.cons (EX1.dec M hs (by omega) (EX.cons (EX1.brk h))))
end
end
noncomputable section
open PySem PySem.W PySem.Calls PyProof.Rows Builtin
open H (Sets fEnd KF kf_in QV looseV PW)

noncomputable def mlAt (σ : St) (m : Str → Option Value) : List Addr := match σ.ml with
  | none => []
  | some (x, _) => match m x with
    | some (.ref a) => [a]
    | _ => []
noncomputable abbrev Cx.at (g : Cx) (B : Heap) : Cx := ⟨g.fn, B, g.N, g.L, g.outer⟩
set_option tactic.hygienic true in
theorem In.rebase {W : Wx} {g : Cx} {A : Around} {σ : St} {S : Shared} (I : In W g A σ S) : ∃ B2, (∀ b o, g.B.get? b = some o → B2.get? b = some o) ∧
    (∀ b o, S.heap.get? b = some o → (∀ es n, o.data ≠ .dict es n) → (∀ m, S.heap.Ns g.L m → b ∉ mlAt σ m) → B2.get? b = some o) ∧ In W (g.at B2) A σ S := by
  obtain ⟨m, hm, hlo, hml⟩ := I.lo
  have hB : ∀ b o, g.B.get? b = some o → (hideAll S.heap (hidden g σ ++ mlAt σ m)).get? b = some o := fun b o e => hideAll_get _ (I.st b o e) fun q => by
    rcases List.mem_append.mp q with q | q
    · rw [hidden_B I q] at e; cases e
    · unfold MlR at hml
      unfold mlAt at q
      split at q
      · cases q
      · rename_i x ls he
        rw [he] at hml
        obtain ⟨a, vs, a1, a2, a3, a4, _⟩ := hml
        rw [a1] at q
        obtain rfl := List.mem_singleton.mp q
        rw [a4] at e; cases e
  refine ⟨hideAll S.heap (hidden g σ ++ mlAt σ m), hB, fun b o e n nm => hideAll_get _ e fun q => ?_, ?_⟩
  · rcases List.mem_append.mp q with q | q
    · rcases List.mem_append.mp q with q | q
      · obtain ⟨o', es, k, a1, a2⟩ := I.fd b q
        rw [e] at a1; cases a1; exact n _ _ a2
      · have hO := I.ob
        unfold ObR at hO
        split at q
        · rename_i x dx he
          rw [he] at hO
          obtain rfl := List.mem_singleton.mp q
          obtain ⟨_, ⟨es, k, sl, a1, _⟩, _⟩ := hO
          rw [e] at a1; cases a1; exact n _ _ rfl
        · cases q
    · exact nm m hm q
  · refine ⟨I.fr, I.hd, I.dp, I.un, I.sk, fun b o e => hB b o (I.bs b o e), fun b o e => of_hideAll _ e, I.up, I.nl, ?_, I.fd, ⟨m, hm, hlo, ?_⟩, ?_, I.gens, I.os⟩
    · have hid : ∀ env ∈ (g.env :: g.outer), ∀ b, env.frame = some b → (hideAll S.heap (hidden g σ ++ mlAt σ m)).get? b = none := fun env he b hb => hideAll_none _ (List.mem_append_left _ (List.mem_append_left _ (List.mem_filterMap.mpr ⟨env, he, hb⟩)))
      have f1 := I.ff
      show S.heap.FunFrames (hideAll S.heap (hidden g σ ++ mlAt σ m)) (g.env :: g.outer)
      clear hB
      generalize hideAll S.heap (hidden g σ ++ mlAt σ m) = B at hid ⊢
      generalize (g.env :: g.outer) = l at f1 hid ⊢
      induction l with
      | nil => trivial
      | cons env r ih =>
        obtain ⟨a1, ⟨L, o, a2, a3, a4, a5⟩, a6⟩ := f1
        exact ⟨a1, ⟨L, o, a2, hid env (.head _) L a2, a4, a5⟩, ih a6 fun e he => hid e (.tail _ he)⟩
    · unfold MlR at hml ⊢
      split at hml
      · trivial
      · rename_i x ls he
        obtain ⟨a, vs, a1, a2, a3, a4, a5⟩ := hml
        refine ⟨a, vs, a1, a2, a3, hideAll_none _ (List.mem_append_right _ ?_), a5⟩
        unfold mlAt
        rw [he]; dsimp only; rw [a1]; exact .head _
    · have hO := I.ob
      unfold ObR at hO ⊢
      split at hO
      · trivial
      · rename_i x dx he
        exact ⟨hO.1, hO.2.1, hideAll_none _ (List.mem_append_left _ (List.mem_append_right _ (by rw [he]; exact .head _))), hO.2.2.2⟩
theorem FunFrames.less {h B B2 : Heap} (k : ∀ b o, B.get? b = some o → B2.get? b = some o) : ∀ {l : List Env}, h.FunFrames B2 l → h.FunFrames B l
  | [], _ => trivial
  | _ :: _, ⟨hk, ⟨L, o, hf, hn, ho, hd⟩, hr⟩ => by
    refine ⟨hk, ⟨L, o, hf, ?_, ho, hd⟩, FunFrames.less k hr⟩
    cases q : B.get? L with
    | none => rfl
    | some o' => rw [k L o' q] at hn; cases hn
theorem none_less {B B2 : Heap} (k : ∀ b o, B.get? b = some o → B2.get? b = some o) {b : Addr} (e : B2.get? b = none) : B.get? b = none := by
  cases q : B.get? b with
  | none => rfl
  | some o' => rw [k b o' q] at e; cases e
theorem In.unbase {W : Wx} {g : Cx} {A : Around} {σ : St} {S : Shared} {B2 : Heap} (I : In W (g.at B2) A σ S) (k : ∀ b o, g.B.get? b = some o → B2.get? b = some o) (bs : ∀ b o, W.H.get? b = some o → g.B.get? b = some o) : In W g A σ S := by
  obtain ⟨m, hm, hlo, hml⟩ := I.lo
  refine ⟨I.fr, I.hd, I.dp, I.un, I.sk, bs, fun b o e => I.st b o (k b o e), I.up, I.nl, FunFrames.less k I.ff, I.fd, ⟨m, hm, hlo, ?_⟩, ?_, I.gens, I.os⟩
  · unfold MlR at hml ⊢
    split at hml
    · trivial
    · obtain ⟨a, vs, a1, a2, a3, a4, a5⟩ := hml
      exact ⟨a, vs, a1, a2, a3, none_less k a4, a5⟩
  · have hO := I.ob
    unfold ObR at hO ⊢
    split at hO
    · trivial
    · exact ⟨hO.1, hO.2.1, none_less k hO.2.2.1, hO.2.2.2⟩
theorem ExcAt.less {g : Cx} {B2 : Heap} {e : Addr} {kk : Bool} {h : Heap} (x : ExcAt (g.at B2) e kk h) (k : ∀ b o, g.B.get? b = some o → B2.get? b = some o) : ExcAt g e kk h := by
  obtain ⟨a, b⟩ := x
  refine ⟨none_less k a, b.imp id fun ⟨a0, oe, vs, T, oT, ts, he, hcls, hd, h1, hnT, r⟩ => ⟨a0, oe, vs, T, oT, ts, he, hcls, hd, h1, none_less k hnT, r⟩⟩

def Leans (g : Cx) (σ : St) (S : Shared) (fp : List Addr) (I : Addr) : Prop := ∀ b ∈ fp, b ≠ I → ∃ o, S.heap.get? b = some o ∧ (g.B.get? b = some o ∨ ((∀ es n, o.data ≠ .dict es n) ∧ ∀ m, S.heap.Ns g.L m → b ∉ mlAt σ m))
structure IT (W : Wx) (fn : Fn) (e : Expr) (σ : St) (n : Nat) (vals : Nat → AV) (Q : St → Prop) : Prop where
  run : ∀ (g : Cx) (A : Around) (S : Shared) (P : Value → Shared → Prop) (E : Value → Shared → Prop), g.fn = fn → In W g A σ S →
    (∀ I fp Pv Stt S' σ', Q σ' → In W g A σ' S' → Walks PW W.w A I fp [I] n Pv Stt → Stt 0 S'.heap → (∀ i h, Stt i h → ∃ o vs, h.get? I = some o ∧ o.data = .fields vs) → (∀ i v h, i < n → Pv i v → Rv h (vals i) v) → g.B.get? I = none → Leans g σ' S' fp I → P (.ref I) S') →
    wpAny W.M A (eval e g.env) (fun x s => wpAny W.M A (pyIter x) P E s) E S

theorem In.moves {W : Wx} {g : Cx} {A : Around} {σ : St} {S : Shared} {I : Addr} {h' : Heap} {t : Nat} (H : In W g A σ S) (hB : g.B.get? I = none) (hI : ∃ o vs, S.heap.get? I = some o ∧ o.data = .fields vs)
    (k : ∀ b o, b ∉ [I] → S.heap.get? b = some o → h'.get? b = some o) : In W g A σ { S with heap := h', toks := t } := by
  obtain ⟨oI, vI, i1, i2⟩ := hI
  have keep : ∀ b o, b ≠ I → S.heap.get? b = some o → h'.get? b = some o := fun b o n e => k b o (by simpa using n) e
  have nI : ∀ b o, S.heap.get? b = some o → (∀ vs, o.data ≠ .fields vs) → b ≠ I := fun b o e n q => by rw [q, i1] at e; cases e; exact n _ i2
  have up : S.heap.UpToSlots h' := fun b o e n => ⟨o.slots, keep b o (nI b o e n) e⟩
  have I2 := H.slots up (fun b o e => keep b o (fun q => by rw [q, hB] at e; cases e) (H.st b o e)) (H.ff.of_keeps fun b o e n => ⟨o, keep b o (nI b o e n) e, rfl⟩)
  exact I2.toks t

set_option tactic.hygienic true in
theorem EX1.for_ {W : Wx} {fn : Fn} {σ : St} {x : Str} {px p : Pos} {it : Expr} {body : List Stmt} {n : Nat} {vals : Nat → AV} {Q : AF → St → Prop} (J : Nat → St → Prop) (h : IT W fn it σ n vals fun σ' => J 0 σ')
    (turn : ∀ i σ, i < n → J i σ → (∀ ls, σ.ml ≠ some (x, ls)) ∧ EX W fn body { σ with loc := (x, vals i) :: σ.loc } (qWh (J (i + 1)) Q)) (done : ∀ σ, J n σ → Q .next σ)
    (hx : fn.sc.names.lookup x = some .local := by rfl) (hfs : ∀ env y, foldedSetIterable it env y = pure y := by intro _ _; rfl) (hlo : ∀ i v, letOwnedTupleGo (.Name x px) i v = pure () := by intro _ _; rfl) : EX1 W fn (.For (.Name x px) it body [] p) σ Q := by
  refine ⟨fun g A S P E hg I k ke => ?_⟩
  subst hg
  refine wpAny_For (h.run g A S _ E rfl I fun It fp Pv Stt S' σ' hJ I' Wk hst hI hPv nB hL => ?_) (hfs _)
  let Jr : Nat → Shared → Prop := fun k s => ∃ i σ, k = n + 1 - i ∧ i ≤ n ∧ J i σ ∧ In W g A σ s ∧ Stt i s.heap ∧ Leans g σ s fp It
  refine codeAny_forLoop Jr (fun kk s hI' => ?_) (n + 1) ⟨0, σ', rfl, Nat.zero_le _, hJ, I', hst, hL⟩ (hlo _)
  obtain ⟨i, σ1, rfl, hi, hJ1, I1, hst1, hL1⟩ := hI'
  by_cases hlt : i < n
  · refine Wk.item i s _ _ hlt hst1 fun v h' tk hp hst2 hk => ?_
    have I2 : In W g A σ1 { s with heap := h', toks := tk } := I1.moves nB (hI i _ hst1) hk
    have L2 : Leans g σ1 { s with heap := h', toks := tk } fp It := fun b hb hne => by
      obtain ⟨o, a1, a2⟩ := hL1 b hb hne
      refine ⟨o, hk b o (by simpa using hne) a1, a2.imp id fun ⟨a3, a4⟩ => ⟨a3, fun m hm => ?_⟩⟩
      obtain ⟨m1, hm1, _⟩ := I1.lo
      have hm1' : h'.Ns g.L m1 := by
        obtain ⟨m2, hm2, _⟩ := I2.lo
        obtain ⟨oL, es, ep, b1, b2, b3⟩ := hm1
        refine ⟨oL, es, ep, hk g.L oL ?_ b1, b2, b3⟩
        intro q
        obtain ⟨oI, vI, c1, c2⟩ := hI i _ hst1
        rw [List.mem_singleton.mp q, c1] at b1; cases b1; rw [b2] at c2; cases c2
      have : m = m1 := funext fun y => hm.agree hm1' y
      rw [this]; exact a4 m1 hm1
    obtain ⟨hml, hbody⟩ := turn i σ1 hlt hJ1
    obtain ⟨m, hm, hlo2, hmm⟩ := I2.lo
    refine wpAny_assign_Name (wpAny_storeName_local (env := g.env) hx hm (fun h3 hn hsb => ?_) (by show (g.fn.sc.kind == .class || (g.fn.sc.kind == .module && _)) = false; rw [I2.sk]; rfl))
    have I3 := I2.stored (t := tk + 1) hml (hPv i v h' hlt hp) hm hlo2 hmm hn hsb
    -- what the loop leans on is no frame
    have nL : ∀ b ∈ fp, b ≠ g.L := fun b hb q => by
      by_cases hne : b = It
      · obtain ⟨oI, vI, c1, c2⟩ := hI (i + 1) _ hst2
        obtain ⟨oL, es, ep, b1, b2, _⟩ := hm
        rw [← hne, q] at c1
        rw [show h'.get? g.L = some oL from b1] at c1
        cases c1; rw [b2] at c2; cases c2
      · obtain ⟨o, a1, a2⟩ := L2 b hb hne
        rcases a2 with a2 | ⟨a3, _⟩
        · rw [q, I2.bl] at a2; cases a2
        · obtain ⟨oL, es, ep, b1, b2, _⟩ := hm
          rw [q] at a1
          rw [show h'.get? g.L = some oL from b1] at a1
          cases a1; exact a3 _ _ b2
    have hst3 : Stt (i + 1) h3 := Wk.frame (i + 1) h' h3 hst2 fun b hb o e => (hsb.2 b (nL b hb)).trans e
    obtain ⟨B2, k1, k2, I4⟩ := I3.rebase
    have inB2 : ∀ b ∈ fp, ∃ o, h3.get? b = some o ∧ B2.get? b = some o := fun b hb => by
      by_cases hne : b = It
      · obtain ⟨oI, vI, c1, c2⟩ := hI (i + 1) _ hst3
        subst hne
        refine ⟨oI, c1, k2 b oI c1 (fun es q z => by rw [c2] at z; cases z) fun m' hm' q => ?_⟩
        obtain ⟨m3, hm3, _, hml3⟩ := I3.lo
        obtain rfl : m' = m3 := funext fun y => hm'.agree hm3 y
        unfold mlAt at q
        unfold MlR at hml3
        split at q
        · cases q
        · rename_i y ls he
          rw [he] at hml3
          obtain ⟨a, vs, d1, ⟨od, d2, _, _, d3⟩, _⟩ := hml3
          rw [d1] at q
          obtain rfl := List.mem_singleton.mp q
          rw [show h3.get? b = some oI from c1] at d2; cases d2; rw [c2] at d3; cases d3
      · obtain ⟨o, a1, a2⟩ := L2 b hb hne
        have a1' : h3.get? b = some o := (hsb.2 b (nL b hb)).trans a1
        rcases a2 with a2 | ⟨a3, a4⟩
        · exact ⟨o, a1', k1 b o a2⟩
        · refine ⟨o, a1', k2 b o a1' a3 fun m' hm' => ?_⟩
          obtain rfl : m' = fun y => if y = x then some v else m y := funext fun y => hm'.agree hn y
          have a5 := a4 m hm
          unfold mlAt at a5 ⊢
          split at a5
          · rename_i he; rw [he]; exact fun q => (nomatch q)
          · rename_i y ls he
            rw [he]
            dsimp only
            rw [if_neg (fun z => hml ls (by rw [he, z]))]
            exact a5
    refine hbody.run (g.at B2) A _ _ _ rfl I4 (fun f S4 fl σ4 hq I5 hf => ?_) fun e S4 kk σ4 hq I5 hx5 => leave_loop (E0 := E) (I5.unbase k1 I.bs) (hx5.less k1) fun h' I6 hx6 => ke e _ kk σ4 hq I6 hx6
    have I6 := I5.unbase k1 I.bs
    have hst4 : Stt (i + 1) S4.heap := Wk.frame (i + 1) h3 S4.heap hst3 fun b hb o e => by
      obtain ⟨o', a1, a2⟩ := inB2 b hb
      rw [a1] at e; cases e
      exact I5.st b o a2
    have L4 : Leans g σ4 S4 fp It := fun b hb hne => by
      obtain ⟨o', a1, a2⟩ := inB2 b hb
      refine ⟨o', I5.st b o' a2, ?_⟩
      obtain ⟨o, a3, a4⟩ := L2 b hb hne
      have a5 : h3.get? b = some o := (hsb.2 b (nL b hb)).trans a3
      rw [a1] at a5; cases a5
      refine a4.imp id fun ⟨a6, _⟩ => ⟨a6, fun m' hm' q => ?_⟩
      obtain ⟨m5, hm5, _, hml5⟩ := I5.lo
      obtain rfl : m' = m5 := funext fun y => hm'.agree hm5 y
      unfold mlAt at q
      unfold MlR at hml5
      split at q
      · cases q
      · rename_i y ls he
        rw [he] at hml5
        obtain ⟨a, vs, d1, _, _, d4, _⟩ := hml5
        rw [d1] at q
        obtain rfl := List.mem_singleton.mp q
        rw [show B2.get? b = none from d4] at a2; cases a2
    cases fl with
    | next => cases hf; exact ⟨n + 1 - (i + 1), by omega, i + 1, σ4, rfl, hlt, hq, I6, hst4, L4⟩
    | cont => cases hf; exact ⟨n + 1 - (i + 1), by omega, i + 1, σ4, rfl, hlt, hq, I6, hst4, L4⟩
    | brk => cases hf; exact k _ _ .next _ hq I6 rfl
    | ret a => obtain ⟨v, rfl, r⟩ := hf; exact k _ _ (.ret a) _ hq I6 ⟨v, rfl, r⟩
    | exc _ => exact hf.elim
  · obtain rfl : i = n := by lia
    refine Wk.done s _ _ hst1 fun h' tk hk => ?_
    have I2 : In W g A σ1 { s with heap := h', toks := tk } := I1.moves nB (hI i _ hst1) hk
    exact wpAny_execs_nil (k _ _ .next _ (done σ1 hJ1) I2 rfl)
end
noncomputable section
open PySem PySem.W PySem.Calls PyProof.Rows Builtin
open H (Sets fEnd KF kf_in QV looseV PW)

theorem new_none {h B : Heap} (st : ∀ b o, B.get? b = some o → ∃ o', h.get? b = some o') : B.get? h.objs.size = none := by
  cases q : B.get? h.objs.size with
  | none => rfl
  | some o => obtain ⟨o', e⟩ := st _ o q; exact absurd (Heap.lt_size e) (Nat.lt_irrefl _)
theorem In.newB {W : Wx} {g : Cx} {A : Around} {σ : St} {S : Shared} (I : In W g A σ S) : g.B.get? S.heap.objs.size = none := new_none fun b o e => ⟨o, I.st b o e⟩
theorem nonf_newN {W : Wx} {g : Cx} {A : Around} {σ : St} {S : Shared} (I : In W g A σ S) {h : Heap} (hs : g.N.objs.size ≤ S.heap.objs.size) : g.N.get? S.heap.objs.size = none := Heap.get?_none_of_le hs
theorem range_iter_fields {h : Heap} {I : Addr} {a n c : Int} (x : IsRangeIter h I a n c) : ∃ o vs, h.get? I = some o ∧ o.data = .fields vs := ⟨_, _, x, rfl⟩
section
variable {W : Wx} {fn : Fn} {σ : St}
theorem IT.range {np p : Pos} {es : List Expr} {e : Expr} {n : Nat} {vals : Nat → AV} {Q : St → Prop} (a b c : Int) (h : AR W fn p (e :: es) σ fun as σ' => (as = [.int a, .int b, .int c] ∨ (as = [.int a, .int b] ∧ c = 1) ∨ (as = [.int b] ∧ a = 0 ∧ c = 1)) ∧ Q σ')
    (hz : Builtin.Range.small a b c = true) (hc : c = 1 ∨ c = -1) (hn : Builtin.Range.rangeSize a b c = n) (hv : ∀ i : Nat, i < n → vals i = .int (a + i * c)) (hk : fn.sc.kind = .function := by rfl) (hx : fn.sc.names.lookup ("range" : Str) = some .globalImplicit := by rfl)
    (hst : ∀ env, starEach (e :: es) env = (false, eval e env) :: starEach es env := by intro env; rfl) (hpl : ∀ env, (backTo p (starEach es env)).any (·.1) = false := by intro env; rfl) : IT W fn (.Call (.Name "range" np) (e :: es) [] p) σ n vals Q := by
  refine ⟨fun g A S P E hg I k => ?_⟩
  refine wpAny_Call_ofName ((EV.blt (W := W) (Q := fun a σ' => a = .val (.type "range") ∧ σ' = σ) (by kernel_rfl) boot_range ⟨rfl, rfl⟩ (by decide) hk hx (by decide)).run g A S _ E hg I fun u S1 a' σ1 h1 I1 r1 s1 => ?_)
  obtain ⟨rfl, rfl⟩ := h1
  cases r1
  have key : ∀ (S2 : Shared) (σ2 : St) (t u v : Tok) (tk : Nat), In W g A σ2 S2 → Q σ2 → wpAny W.M A (pyIter (.ref S2.heap.objs.size)) P E { S2 with heap := S2.heap.push { cls := .type "range", data := .fields #[.int a t, .int b u, .int c v] }, toks := tk } := by
    intro S2 σ2 t u v tk I2 hq
    refine wpAny_pyIter_range (IsRange.new ..) hz ?_
    have I3 : In W g A σ2 { S2 with heap := (S2.heap.push { cls := .type "range", data := .fields #[.int a t, .int b u, .int c v] }).push { cls := .type "range_iterator", data := .fields #[rawInt a, rawInt (Builtin.Range.rangeSize a b c), rawInt c] }, toks := tk } :=
      I2.grows (fun b o e => Heap.get?_push_of_some _ (Heap.get?_push_of_some _ e)) rfl rfl
    have Ip : In W g A σ2 { S2 with heap := S2.heap.push { cls := .type "range", data := .fields #[.int a t, .int b u, .int c v] }, toks := tk } := I2.grows (fun b o e => Heap.get?_push_of_some _ e) rfl rfl
    refine k _ _ _ _ _ σ2 hq I3 (Walks.range I3.hd _ a c n) ?_ (fun i h x => range_iter_fields x) (fun i v h hi hp => ?_) Ip.newB (fun b hb hne => absurd (List.mem_singleton.mp hb) hne)
    · have e1 : (a + ((0 : Nat) : Int) * c) = a := by simp
      have e2 : ((n : Int) - ((0 : Nat) : Int)) = Builtin.Range.rangeSize a b c := by rw [hn]; simp
      rw [e1, e2]
      exact Heap.get?_push_size _ rfl
    · obtain ⟨t, rfl⟩ := hp
      rw [hv i hi]
      exact ⟨t, rfl⟩
  refine PyProof.Rows.callWith_type (by rw [hst]; show (false || (backTo p (starEach es g.env)).any (·.1)) = false; rw [hpl]; rfl) ?_
  have hh := h.run g A S1
  have e0 : backTo p (starEach (e :: es) g.env) = (false, eval e g.env) :: backTo p (starEach es g.env) := by rw [hst]; rfl
  rw [e0] at hh ⊢
  refine Calls.evalArgs_plain (hh _ E hg I1 fun us S2 as σ2 h2 I2 r2 s2 => ?_)
  obtain ⟨has, hq⟩ := h2
  rcases has with rfl | ⟨rfl, rfl⟩ | ⟨rfl, rfl, rfl⟩
  · obtain ⟨x, y, z, rfl⟩ : ∃ x y z, us = [x, y, z] := by
      have := r2.len
      match us, this with | [x, y, z], _ => exact ⟨x, y, z, rfl⟩
    obtain ⟨⟨t, rfl⟩, ⟨u, rfl⟩, ⟨v, rfl⟩, _⟩ := r2
    exact call_range_3 (by rcases hc with rfl | rfl <;> decide) (key S2 σ2 t u v _ I2 hq) (.inl (PyProof.noPylong_small (by rcases hc with rfl | rfl <;> decide)))
  · obtain ⟨x, y, rfl⟩ : ∃ x y, us = [x, y] := by
      have := r2.len
      match us, this with | [x, y], _ => exact ⟨x, y, rfl⟩
    obtain ⟨⟨t, rfl⟩, ⟨u, rfl⟩, _⟩ := r2
    exact call_range_2 (key S2 σ2 t u _ _ I2 hq)
  · obtain ⟨x, rfl⟩ : ∃ x, us = [x] := by
      have := r2.len
      match us, this with | [x], _ => exact ⟨x, rfl⟩
    obtain ⟨⟨t, rfl⟩, _⟩ := r2
    exact call_range_1 (key S2 σ2 _ t _ _ I2 hq)
theorem small_up {a b : Int} (ha : -1000 ≤ a) (ha' : a ≤ 1000) (hb : -1000 ≤ b) (hb' : b ≤ 1000) : Builtin.Range.small a b 1 = true := small_one (by lia) (by lia) (by lia) (by lia)
theorem size_down (a b : Int) : Builtin.Range.rangeSize a b (-1) = if b < a then a - b else 0 := by
  unfold Builtin.Range.rangeSize
  simp only [show ¬ ((-1 : Int) > 0) by decide, if_false]
  by_cases h : b < a
  · rw [if_pos h, if_pos (show a > b from h), show -(-1 : Int) = 1 from rfl, Int.ediv_one]; lia
  · rw [if_neg h, if_neg (show ¬ a > b from h)]
theorem small_down {a b : Int} (ha : -1000 ≤ a) (ha' : a ≤ 1000) (hb : -1000 ≤ b) (hb' : b ≤ 1000) : Builtin.Range.small a b (-1) = true := by
  unfold Builtin.Range.small
  rw [size_down]
  simp only [Builtin.Range.rangeFitsLong, Bool.and_eq_true, Bool.or_eq_true, decide_eq_true_eq, beq_iff_eq, show ¬ ((-1 : Int) > 0) by decide, if_false]
  split <;> lia
theorem IT.str {e : Expr} {l : List Nat} {Q : St → Prop} (h : EV W fn e σ fun a σ' => a = .str l ∧ Q σ') : IT W fn e σ l.length (fun i => .str [l.getD i 0]) Q := by
  refine ⟨fun g A S P E hg I k => h.run g A S _ E hg I fun u S1 a σ1 h1 I1 r1 s1 => ?_⟩
  obtain ⟨rfl, hq⟩ := h1
  obtain ⟨t, rfl⟩ := r1
  have fin : ∀ (o : Obj) (Stt : Nat → Heap → Prop), Walks PW W.w A S1.heap.objs.size [S1.heap.objs.size] [S1.heap.objs.size] (sx l).cps.size (SignAt (sx l)) Stt → Stt 0 (S1.heap.push o) → (∀ i h, Stt i h → ∃ o vs, h.get? S1.heap.objs.size = some o ∧ o.data = .fields vs) → P (.ref S1.heap.objs.size) { S1 with heap := S1.heap.push o } := by
    intro o Stt Wk hst hI
    refine k _ _ _ _ _ σ1 hq (I1.grows (S' := { S1 with heap := S1.heap.push o }) (fun b o e => Heap.get?_push_of_some _ e) rfl rfl) Wk hst hI (fun i v h hi hp => ?_) I1.newB (fun b hb hne => absurd (List.mem_singleton.mp hb) hne)
    obtain ⟨c, u, hc, rfl⟩ := hp
    refine ⟨u, ?_⟩
    have : l[i]? = some c := by simpa using hc
    show Value.str ⟨#[c]⟩ u = Value.str ⟨⟨[l.getD i 0]⟩⟩ u
    rw [List.getD_eq_getElem?_getD, this]; rfl
  cases ha : (sx l).cps.all (· < 128)
  · exact wpAny_pyIter_wide ha (fin _ _ (Walks.strWide I1.hd _ (sx l) t) ⟨_, Heap.get?_push_size _ rfl, rfl, rfl⟩ fun i h x => let ⟨o, ho, _, hd⟩ := x; ⟨o, _, ho, hd⟩)
  · exact wpAny_pyIter_ascii ha (fin _ _ (Walks.strAscii I1.hd _ (sx l) t) ⟨_, Heap.get?_push_size _ rfl, rfl, rfl⟩ fun i h x => let ⟨o, ho, _, hd⟩ := x; ⟨o, _, ho, hd⟩)
theorem strs_at {vs : List Value} {ls : List (List Nat)} (h : StrsAre vs (ls.map sx)) {i : Nat} {v : Value} (e : vs[i]? = some v) : ∃ t, v = .str (sx (ls.getD i [])) t := by
  induction ls generalizing vs i with
  | nil => cases h; simp at e
  | cons l r ih =>
    cases h with
    | cons x t h' =>
      cases i with
      | zero => simp at e; exact ⟨_, e.symm⟩
      | succ j => simp at e; exact ih h' e
theorem IT.strs {e : Expr} {ls : List (List Nat)} {Q : St → Prop} (h : EV W fn e σ fun a σ' => a = .strs ls ∧ σ'.ml = none ∧ Q σ') : IT W fn e σ ls.length (fun i => .str (ls.getD i [])) Q := by
  refine ⟨fun g A S P E hg I k => h.run g A S _ E hg I fun u S1 a σ1 h1 I1 r1 s1 => ?_⟩
  obtain ⟨rfl, hml, hq⟩ := h1
  obtain ⟨a, vs, rfl, hl, hs⟩ := r1
  have hlen : (List.toArray vs).size = ls.length := by rw [List.size_toArray, hs.len_eq, List.length_map]
  have hlt : a < S1.heap.objs.size := by obtain ⟨o, ho, _⟩ := hl; exact Heap.lt_size ho
  refine wpAny_pyIter_list hl ?_
  have Wk := Walks.list (prog := PW) (w := W.w) I1.hd S1.heap.objs.size a (Nat.ne_of_lt hlt) (List.toArray vs)
  rw [hlen] at Wk
  have hl' := IsList.step hl (.of_keeps (h' := S1.heap.push { cls := .type "list_iterator", data := .fields #[.ref a, .int 0 0] }) fun b o e => Heap.get?_push_of_some _ e)
  refine k _ _ _ _ _ σ1 hq (I1.grows (S' := { S1 with heap := S1.heap.push { cls := .type "list_iterator", data := .fields #[.ref a, .int 0 0] } }) (fun b o e => Heap.get?_push_of_some _ e) rfl rfl) Wk
    ⟨⟨_, Heap.get?_push_size _ rfl, rfl, rfl⟩, hl'⟩ (fun i h x => let ⟨o, ho, _, hd⟩ := x.1; ⟨o, _, ho, hd⟩) (fun i v h hi hp => ?_) I1.newB (fun b hb hne => ?_)
  · obtain ⟨t, rfl⟩ := strs_at hs (by simpa using hp)
    exact ⟨t, rfl⟩
  · rcases List.mem_cons.mp hb with rfl | hb
    · exact absurd rfl hne
    · obtain rfl := List.mem_singleton.mp hb
      obtain ⟨o, ho, _, n, hd⟩ := hl'
      refine ⟨o, ho, .inr ⟨fun es n q => ?_, fun m hm => ?_⟩⟩
      · rw [hd] at q; cases q
      · unfold mlAt; rw [hml]; exact fun q => (nomatch q)
end
end
noncomputable section
namespace A

noncomputable def lt : List Nat → List Nat → Bool
  | _, [] => false
  | [], _ :: _ => true
  | a :: as, b :: bs => decide (a < b) || (a == b && lt as bs)
noncomputable def lcp : List Nat → List Nat → Nat
  | a :: as, b :: bs => if a = b then lcp as bs + 1 else 0
  | _, _ => 0
theorem lcp_nil_l (t : List Nat) : lcp [] t = 0 := by cases t <;> rfl
theorem lcp_nil_r (t : List Nat) : lcp t [] = 0 := by cases t <;> rfl
theorem lcp_cons (a b : Nat) (as bs : List Nat) : lcp (a :: as) (b :: bs) = if a = b then lcp as bs + 1 else 0 := rfl
theorem lt_cons (a b : Nat) (as bs : List Nat) : lt (a :: as) (b :: bs) = (decide (a < b) || (a == b && lt as bs)) := rfl
theorem lcp_le_l : ∀ a b : List Nat, lcp a b ≤ a.length
  | [], b => by rw [lcp_nil_l]; exact Nat.zero_le _
  | a :: as, [] => by rw [lcp_nil_r]; exact Nat.zero_le _
  | a :: as, b :: bs => by
    rw [lcp_cons]
    split
    · have := lcp_le_l as bs; simp; omega
    · exact Nat.zero_le _
theorem lcp_le_r : ∀ a b : List Nat, lcp a b ≤ b.length
  | [], b => by rw [lcp_nil_l]; exact Nat.zero_le _
  | a :: as, [] => by rw [lcp_nil_r]; exact Nat.zero_le _
  | a :: as, b :: bs => by
    rw [lcp_cons]
    split
    · have := lcp_le_r as bs; simp; omega
    · exact Nat.zero_le _
theorem lcp_self : ∀ a : List Nat, lcp a a = a.length
  | [] => rfl
  | a :: as => by rw [lcp_cons, if_pos rfl, lcp_self as]; rfl
theorem lt_of_lcp : ∀ (t k : List Nat), lt t k = (if lcp k t = k.length then false else if lcp k t = t.length then true else decide (t.getD (lcp k t) 0 < k.getD (lcp k t) 0))
  | t, [] => by simp [lt, lcp_nil_l]
  | [], b :: bs => by simp [lt, lcp_nil_r]
  | a :: as, b :: bs => by
    rw [lt_cons, lcp_cons]
    by_cases h : b = a
    · subst h
      rw [if_pos rfl, lt_of_lcp as bs]
      simp only [List.length_cons, Nat.add_right_cancel_iff]
      simp
    · rw [if_neg h]
      have h' : ¬ a = b := fun q => h q.symm
      simp [h']
theorem get_ne_of_lcp : ∀ (t k : List Nat), lcp k t ≠ k.length → lcp k t ≠ t.length → t.getD (lcp k t) 0 ≠ k.getD (lcp k t) 0
  | t, [], h, _ => by rw [lcp_nil_l] at h; exact absurd rfl h
  | [], b :: bs, _, h => by rw [lcp_nil_r] at h; exact absurd rfl h
  | a :: as, b :: bs, h1, h2 => by
    rw [lcp_cons] at h1 h2 ⊢
    by_cases h : b = a
    · subst h
      rw [if_pos rfl] at h1 h2 ⊢
      simp only [List.length_cons, ne_eq, Nat.add_right_cancel_iff] at h1 h2
      simpa using get_ne_of_lcp as bs h1 h2
    · rw [if_neg h]
      simpa using fun q => h q.symm
theorem get_eq_of_lt_lcp : ∀ (t k : List Nat) (i : Nat), i < lcp k t → t.getD i 0 = k.getD i 0
  | t, [], i, h => by rw [lcp_nil_l] at h; lia
  | [], b :: bs, i, h => by rw [lcp_nil_r] at h; omega
  | a :: as, b :: bs, i, h => by
    rw [lcp_cons] at h
    by_cases q : b = a
    · subst q
      rw [if_pos rfl] at h
      cases i with
      | zero => rfl
      | succ j => simpa using get_eq_of_lt_lcp as bs j (by lia)
    · rw [if_neg q] at h; omega
theorem sandwich : ∀ (m : Nat) (a b c t : List Nat), lt b a = false → lt c b = false → m ≤ lcp a t → m ≤ lcp c t → m ≤ lcp b t
  | 0, _, _, _, _, _, _, _, _ => Nat.zero_le _
  | m + 1, a, b, c, t, h1, h2, h3, h4 => by
    match a, c, t, h1, h2, h3, h4 with
    | x :: a', z :: c', y :: t', h1, h2, h3, h4 =>
      rw [lcp_cons] at h3 h4
      by_cases q : x = y
      · subst q
        by_cases q2 : z = x
        · subst q2
          rw [if_pos rfl] at h3 h4
          match b, h1, h2 with
          | [], h1, h2 => simp [lt] at h1
          | w :: b', h1, h2 =>
            rw [lt_cons] at h1 h2
            simp only [Bool.or_eq_false_iff, decide_eq_false_iff_not, Bool.and_eq_false_iff, beq_eq_false_iff_ne] at h1 h2
            have e : w = z := by lia
            subst e
            rw [lcp_cons, if_pos rfl]
            have h1' := h1.2.resolve_left (fun q => q rfl)
            have h2' := h2.2.resolve_left (fun q => q rfl)
            have := sandwich m a' b' c' t' h1' h2' (by lia) (by lia)
            lia
        · rw [if_neg q2] at h4; lia
      · rw [if_neg q] at h3; lia
    | [], _, _, _, _, h3, _ => rw [lcp_nil_l] at h3; omega
    | _ :: _, [], _, _, _, _, h4 => rw [lcp_nil_l] at h4; omega
    | _ :: _, _ :: _, [], _, _, h3, _ => rw [lcp_nil_r] at h3; omega
theorem lt_irrefl : ∀ a : List Nat, lt a a = false
  | [] => rfl
  | a :: as => by rw [lt_cons, lt_irrefl as]; simp
theorem lt_trans : ∀ a b c : List Nat, lt a b = true → lt b c = true → lt a c = true
  | _, [], _, h, _ => by simp [lt] at h
  | _, _ :: _, [], _, h => by simp [lt] at h
  | [], _ :: _, _ :: _, _, _ => rfl
  | a :: as, b :: bs, c :: cs, h1, h2 => by
    rw [lt_cons] at h1 h2 ⊢
    simp only [Bool.or_eq_true, decide_eq_true_eq, Bool.and_eq_true, beq_iff_eq] at h1 h2 ⊢
    rcases h1 with h1 | ⟨rfl, h1⟩
    · rcases h2 with h2 | ⟨rfl, h2⟩
      · exact .inl (by lia)
      · exact .inl h1
    · rcases h2 with h2 | ⟨rfl, h2⟩
      · exact .inl h2
      · exact .inr ⟨rfl, lt_trans as bs cs h1 h2⟩
theorem lt_total : ∀ a b : List Nat, lt a b = false → lt b a = false → a = b
  | [], [], _, _ => rfl
  | [], _ :: _, h, _ => by simp [lt] at h
  | _ :: _, [], _, h => by simp [lt] at h
  | a :: as, b :: bs, h1, h2 => by
    rw [lt_cons] at h1 h2
    simp only [Bool.or_eq_false_iff, decide_eq_false_iff_not, Bool.and_eq_false_iff, beq_eq_false_iff_ne] at h1 h2
    have e : a = b := by lia
    subst e
    rw [lt_total as bs (h1.2.resolve_left (fun q => q rfl)) (h2.2.resolve_left (fun q => q rfl))]
theorem le_trans {a b c : List Nat} (h1 : lt b a = false) (h2 : lt c b = false) : lt c a = false := by
  cases q : lt c a with
  | false => rfl
  | true =>
    cases q2 : lt a b with
    | true => have := lt_trans _ _ _ q q2; rw [h2] at this; cases this
    | false =>
      have := lt_total a b q2 h1
      subst this; rw [h2] at q; cases q
theorem le_of_lt {a b : List Nat} (h : lt a b = true) : lt b a = false := by
  cases q : lt b a with
  | false => rfl
  | true => have := lt_trans _ _ _ h q; rw [lt_irrefl] at this; cases this
def Pre (k t : List Nat) : Prop := lcp k t = k.length
theorem pre_le {k t : List Nat} (h : Pre k t) : lt t k = false := by
  rw [lt_of_lcp, if_pos (show lcp k t = k.length from h)]
theorem pre_len {k t : List Nat} (h : Pre k t) : k.length ≤ t.length := h ▸ lcp_le_r k t
theorem take_lcp : ∀ (k t : List Nat) (m : Nat), m ≤ lcp k t → k.take m = t.take m
  | _, _, 0, _ => by simp
  | [], t, m + 1, h => by rw [lcp_nil_l] at h; lia
  | _ :: _, [], m + 1, h => by rw [lcp_nil_r] at h; omega
  | a :: as, b :: bs, m + 1, h => by
    rw [lcp_cons] at h
    by_cases q : a = b
    · subst q
      rw [if_pos rfl] at h
      rw [List.take_succ_cons, List.take_succ_cons, take_lcp as bs m (by lia)]
    · rw [if_neg q] at h; omega
theorem lcp_of_take : ∀ (m : Nat) (k t : List Nat), k.take m = t.take m → m ≤ k.length → m ≤ t.length → m ≤ lcp k t
  | 0, _, _, _, _, _ => Nat.zero_le _
  | m + 1, [], _, _, h, _ => by simp at h
  | m + 1, _ :: _, [], _, _, h => by simp at h
  | m + 1, a :: as, b :: bs, h, h1, h2 => by
    simp only [List.take_succ_cons, List.cons.injEq] at h
    rw [lcp_cons, if_pos h.1]
    have := lcp_of_take m as bs h.2 (by simpa using h1) (by simpa using h2)
    lia
theorem pre_iff {k t : List Nat} : Pre k t ↔ ∃ r, t = k ++ r := by
  constructor
  · intro h
    refine ⟨t.drop k.length, ?_⟩
    have := take_lcp k t k.length (Nat.le_of_eq h.symm)
    rw [List.take_length] at this
    conv => lhs; rw [← List.take_append_drop k.length t]
    rw [← this]
  · rintro ⟨r, rfl⟩
    exact Nat.le_antisymm (lcp_le_l _ _) (lcp_of_take _ _ _ (by simp) (Nat.le_refl _) (by simp))
theorem pre_pre {k k' t : List Nat} (h : Pre k t) (h' : Pre k' t) (hl : k.length ≤ k'.length) : Pre k k' := by
  obtain ⟨r, e⟩ := pre_iff.mp h
  obtain ⟨r', e'⟩ := pre_iff.mp h'
  rw [pre_iff]
  rw [e] at e'
  exact ⟨k'.drop k.length, by
    have := congrArg (List.take k'.length) e'
    rw [List.take_left] at this
    rw [← this]
    rw [List.take_append, List.take_of_length_le hl, List.drop_left]⟩
theorem pre_trans {a b c : List Nat} (h : Pre a b) (h' : Pre b c) : Pre a c := by
  obtain ⟨r, e⟩ := pre_iff.mp h
  obtain ⟨r', e'⟩ := pre_iff.mp h'
  exact pre_iff.mpr ⟨r ++ r', by rw [e', e, List.append_assoc]⟩

structure Tab (K : Nat → List Nat) (sub : Nat → Int) (n : Nat) : Prop where
  two : 2 ≤ n
  sorted : ∀ i j, i < j → j < n → lt (K i) (K j) = true
  chain : ∀ i, i < n → (sub i = -1 ∧ ∀ m, m < n → Pre (K m) (K i) → (K i).length ≤ (K m).length) ∨
    ∃ j : Nat, sub i = j ∧ j < n ∧ (K j).length < (K i).length ∧ Pre (K j) (K i) ∧ ∀ m, m < n → Pre (K m) (K i) → (K m).length < (K i).length → (K m).length ≤ (K j).length
variable {K : Nat → List Nat} {sub : Nat → Int} {n : Nat} {t : List Nat}
theorem Tab.le (T : Tab K sub n) {i j : Nat} (h : i ≤ j) (hj : j < n) : lt (K j) (K i) = false := by
  rcases Nat.lt_or_eq_of_le h with h | rfl
  · exact le_of_lt (T.sorted i j h hj)
  · exact lt_irrefl _
structure Srch (K : Nat → List Nat) (n : Nat) (t : List Nat) (i j ci cj : Nat) : Prop where
  ij : i < j
  jn : j ≤ n
  lo : (i = 0 ∧ ci = 0) ∨ (lt t (K i) = false ∧ ci = lcp (K i) t)
  hi : (j = n ∧ cj = 0) ∨ (j < n ∧ lt t (K j) = true ∧ cj = lcp (K j) t)
theorem Srch.share (T : Tab K sub n) {i j ci cj k : Nat} (S : Srch K n t i j ci cj) (h1 : i ≤ k) (h2 : k < j) : min ci cj ≤ lcp (K k) t := by
  have hn := S.jn
  rcases S.lo with ⟨_, h3⟩ | ⟨h3, h4⟩
  · rw [h3]; simp
  · rcases S.hi with ⟨_, h5⟩ | ⟨h5, h6, h7⟩
    · rw [h5]; simp
    · exact sandwich _ (K i) (K k) (K j) t (T.le h1 (by exact Nat.lt_of_lt_of_le ‹_› ‹_›)) (T.le (Nat.le_of_lt h2) h5) (by lia) (by lia)
theorem Srch.start (T : Tab K sub n) : Srch K n t 0 n 0 0 := ⟨by have := T.two; exact Nat.le_of_lt ‹_›, Nat.le_refl _, .inl ⟨rfl, rfl⟩, .inl ⟨rfl, rfl⟩⟩
def Ends (K : Nat → List Nat) (n : Nat) (t : List Nat) (i ci : Nat) : Prop := i < n ∧ ((i = 0 ∧ ci = 0 ∧ lt t (K 0) = true) ∨ (lt t (K i) = false ∧ ci = lcp (K i) t ∧ (i + 1 < n → lt t (K (i + 1)) = true)))
noncomputable def Best (K : Nat → List Nat) (n : Nat) (t : List Nat) : Option Nat → Prop
  | some i => i < n ∧ Pre (K i) t ∧ ∀ m, m < n → Pre (K m) t → (K m).length ≤ (K i).length
  | none => ∀ m, m < n → ¬ Pre (K m) t
def Chn (K : Nat → List Nat) (n : Nat) (t : List Nat) (i0 ci i : Nat) : Prop := Ends K n t i0 ci ∧ i < n ∧ Pre (K i) (K i0) ∧ ∀ m, m < n → Pre (K m) t → Pre (K m) (K i)
theorem pre_refl (a : List Nat) : Pre a a := lcp_self a
theorem Chn.start (T : Tab K sub n) {i ci : Nat} (E : Ends K n t i ci) : Chn K n t i ci i := by
  refine ⟨E, E.1, pre_refl _, fun m hm hp => ?_⟩
  obtain ⟨hi, ⟨h1, h2, h3⟩ | ⟨h1, h2, h3⟩⟩ := E
  · have := pre_le hp
    have h4 := T.le (Nat.zero_le m) hm
    have := le_trans h4 this
    rw [h3] at this; cases this
  · have hle : m ≤ i := by
      by_cases q : m ≤ i
      · exact q
      · have h4 := h3 (by lia)
        have h5 := le_trans (T.le (show i + 1 ≤ m by exact Nat.not_le.mp ‹_›) hm) (pre_le hp)
        rw [h4] at h5; cases h5
    have := sandwich (K m).length (K m) (K i) t t (T.le hle hi) h1 (Nat.le_of_eq hp.symm) (by rw [lcp_self]; exact pre_len hp)
    exact pre_pre hp (pre_iff.mpr ⟨t.drop (K m).length, by
      obtain ⟨r, e⟩ := pre_iff.mp hp
      rw [e]; simp⟩) (Nat.le_refl _) |> fun _ => by
        rw [pre_iff]
        have e1 := take_lcp (K i) t (K m).length this
        have e2 := take_lcp (K m) t (K m).length (Nat.le_of_eq hp.symm)
        rw [List.take_length] at e2
        refine ⟨(K i).drop (K m).length, ?_⟩
        conv => lhs; rw [← List.take_append_drop (K m).length (K i), e1, ← e2]
theorem Chn.hit {i0 ci i : Nat} (C : Chn K n t i0 ci i) (h : (K i).length ≤ ci) : Best K n t (some i) := by
  obtain ⟨⟨_, E⟩, hi, hp, hb⟩ := C
  have hpt : Pre (K i) t := by
    rcases E with ⟨_, h2, _⟩ | ⟨h1, h2, _⟩
    · have : K i = [] := List.length_eq_zero_iff.mp (by lia)
      rw [this]; exact lcp_nil_l _
    · have e1 := take_lcp (K i0) t (K i).length (by lia)
      obtain ⟨r, e⟩ := pre_iff.mp hp
      rw [pre_iff]
      refine ⟨t.drop (K i).length, ?_⟩
      conv => lhs; rw [← List.take_append_drop (K i).length t, ← e1, e, List.take_left]
  exact ⟨hi, hpt, fun m hm hm2 => pre_len (hb m hm hm2)⟩
theorem Chn.miss {i0 ci i : Nat} (T : Tab K sub n) (C : Chn K n t i0 ci i) (h : ¬ (K i).length ≤ ci) : (sub i = -1 ∧ Best K n t none) ∨ ∃ j : Nat, sub i = j ∧ (K j).length < (K i).length ∧ Chn K n t i0 ci j := by
  obtain ⟨⟨h0, E⟩, hi, hp, hb⟩ := C
  have nt : ¬ Pre (K i) t := fun q => by
    rcases E with ⟨_, _, h3⟩ | ⟨h1, h2, _⟩
    · have := le_trans (T.le (Nat.zero_le i) hi) (pre_le q)
      rw [h3] at this; cases this
    · apply h
      rw [h2]
      have l1 := pre_len hp
      have l2 := pre_len q
      refine lcp_of_take _ _ _ ?_ l1 l2
      rw [← take_lcp (K i) (K i0) _ (Nat.le_of_eq hp.symm), ← take_lcp (K i) t _ (Nat.le_of_eq q.symm)]
  have sm : ∀ m, m < n → Pre (K m) t → (K m).length < (K i).length := fun m hm hm2 => by
    have h1 := hb m hm hm2
    have h2 := pre_len h1
    rcases Nat.lt_or_eq_of_le h2 with h3 | h3
    · exact h3
    · obtain ⟨r, e⟩ := pre_iff.mp h1
      have : r = [] := by
        have := congrArg List.length e
        simp only [List.length_append] at this
        exact List.length_eq_zero_iff.mp (by lia)
      rw [this, List.append_nil] at e
      exact absurd (e ▸ hm2) nt
  rcases T.chain i hi with ⟨h1, h2⟩ | ⟨j, h1, h2, hl, h3, h4⟩
  · refine .inl ⟨h1, fun m hm hm2 => ?_⟩
    have := h2 m hm (hb m hm hm2)
    have := sm m hm hm2
    lia
  · exact .inr ⟨j, h1, hl, ⟨h0, E⟩, h2, pre_trans h3 hp, fun m hm hm2 => pre_pre (hb m hm hm2) h3 (h4 m hm (hb m hm hm2) (sm m hm hm2))⟩
noncomputable def tabB (K : List (List Nat)) (sub : List Int) : Bool :=
  let n := K.length
  decide (2 ≤ n) && (List.range n).all (fun i => (List.range n).all fun j => decide (j ≤ i) || lt (K.getD i []) (K.getD j [])) &&
  (List.range n).all fun i =>
    (sub.getD i 0 == -1 && (List.range n).all fun m => !(lcp (K.getD m []) (K.getD i []) == (K.getD m []).length) || decide ((K.getD i []).length ≤ (K.getD m []).length)) ||
    (let j := (sub.getD i 0).toNat
     decide (0 ≤ sub.getD i 0) && decide (j < n) && decide ((K.getD j []).length < (K.getD i []).length) && (lcp (K.getD j []) (K.getD i []) == (K.getD j []).length) &&
      (List.range n).all fun m => !(lcp (K.getD m []) (K.getD i []) == (K.getD m []).length) || decide ((K.getD i []).length ≤ (K.getD m []).length) || decide ((K.getD m []).length ≤ (K.getD j []).length))
theorem tab_of {K : List (List Nat)} {sub : List Int} (h : tabB K sub = true) : Tab (fun i => K.getD i []) (fun i => sub.getD i 0) K.length := by
  unfold tabB at h
  simp only [Bool.and_eq_true, decide_eq_true_eq, List.all_eq_true, List.mem_range, Bool.or_eq_true, beq_iff_eq, Bool.not_eq_true', beq_eq_false_iff_ne] at h
  obtain ⟨⟨h1, h2⟩, h3⟩ := h
  refine ⟨h1, fun i j hi hj => ?_, fun i hi => ?_⟩
  · exact (h2 i (by lia) j hj).resolve_left (by lia)
  · rcases h3 i hi with ⟨a, b⟩ | ⟨⟨⟨⟨a, b⟩, c⟩, d⟩, e⟩
    · exact .inl ⟨a, fun m hm hp => (b m hm).resolve_left (fun q => q hp)⟩
    · refine .inr ⟨(sub.getD i 0).toNat, by lia, b, c, d, fun m hm hp hl => ?_⟩
      rcases e m hm with (e | e) | e
      · exact absurd hp e
      · lia
      · exact e
end A
end
noncomputable section
namespace A
noncomputable def part (R : List Nat) : List Nat := R.takeWhile (· != 45)
noncomputable def offc (c : Nat) : List Nat → List Nat
  | [] => []
  | a :: r => if a = c then r else a :: r
theorem part_app {k r : List Nat} (h : ∀ c ∈ k, c ≠ 45) : part (k ++ r) = k ++ part r := by
  unfold part
  induction k with
  | nil => rfl
  | cons a k ih =>
    rw [List.cons_append, List.takeWhile_cons, if_pos (by have := h a (.head _); simpa using this), ih fun c hc => h c (.tail _ hc)]
    rfl
noncomputable def hy : List Nat → Bool
  | [] => true
  | a :: _ => a == 45
theorem part_nil_iff {r : List Nat} : part r = [] ↔ hy r = true := by
  unfold part
  cases r with
  | nil => simp [hy]
  | cons a r =>
    rw [List.takeWhile_cons]
    by_cases h : a = 45
    · subst h; simp [hy]
    · rw [if_pos (by simpa using h)]; simp [hy, h]
theorem part_no {R : List Nat} : ∀ c ∈ part R, c ≠ 45 := by
  intro c hc
  have := List.all_eq_true.mp (List.all_takeWhile (p := (· != 45)) (l := R)) c hc
  simpa using this
theorem part_pre (R : List Nat) : ∃ r, R = part R ++ r := ⟨R.dropWhile (· != 45), (List.takeWhile_append_dropWhile ..).symm⟩
section
variable {K : Nat → List Nat} {n : Nat} {R : List Nat}
theorem best_none (h : Best K n R none) (m : Nat) (hm : m < n) : part R ≠ K m := by
  intro e
  obtain ⟨r, hr⟩ := part_pre R
  exact h m hm (pre_iff.mpr ⟨r, by rw [← e]; exact hr⟩)
theorem best_hy {i : Nat} (hk : ∀ m, m < n → ∀ c ∈ K m, c ≠ 45) (h : Best K n R (some i)) (hy : hy (R.drop (K i).length) = true) : part R = K i := by
  obtain ⟨hi, hp, _⟩ := h
  obtain ⟨r, rfl⟩ := pre_iff.mp hp
  rw [List.drop_left] at hy
  rw [part_app (hk i hi), part_nil_iff.mpr hy, List.append_nil]
theorem best_nhy {i : Nat} (hk : ∀ m, m < n → ∀ c ∈ K m, c ≠ 45) (h : Best K n R (some i)) (hy : hy (R.drop (K i).length) = false) (m : Nat) (hm : m < n) : part R ≠ K m := by
  intro e
  obtain ⟨hi, hp, hb⟩ := h
  obtain ⟨r, rfl⟩ := pre_iff.mp hp
  rw [List.drop_left] at hy
  obtain ⟨r2, hr2⟩ := part_pre (K i ++ r)
  have := hb m hm (pre_iff.mpr ⟨r2, by rw [← e]; exact hr2⟩)
  rw [part_app (hk i hi)] at e
  rw [← e, List.length_append] at this
  have : part r = [] := List.eq_nil_of_length_eq_zero (by omega)
  rw [part_nil_iff.mp this] at hy
  cases hy
end
end A
end
noncomputable section
open PySem PySem.W PySem.Calls PyProof.Rows Builtin
open H (Sets fEnd KF kf_in QV looseV PW)

structure Am where
  s : List Nat
  sub : Int
  res : Int
  a : Addr
noncomputable def dAm : Am := ⟨[], 0, 0, 0⟩
noncomputable def amOk (K : Frag) (m : Am) : Bool := match K.lookup m.a with
  | some ⟨.ref 220, some d, .plain, sl⟩ => (match K.lookup d with
    | some od => (match findObj K 220 (some od) "s" with | some (.value (.str x _)) => x == sx m.s | _ => false) &&
      (match findObj K 220 (some od) "substring_i" with | some (.value (.int i _)) => i == m.sub | _ => false) &&
      (match findObj K 220 (some od) "result" with | some (.value (.int i _)) => i == m.res | _ => false)
    | none => false)
  | _ => false
abbrev listOk (K : Frag) (t : Addr) (T : List Am) : Prop := (K.lookup t).bind isL = some (T.map fun m => .ref m.a)
noncomputable def T_a_0 : List Am := [⟨[], (-1), 14, 312⟩, ⟨[45], 0, 13, 315⟩, ⟨[99, 120], 0, 1, 318⟩, ⟨[103, 120], 0, 2, 321⟩, ⟨[104, 120], 0, 3, 324⟩, ⟨[106, 120], 0, 4, 327⟩, ⟨[113], 0, 12, 330⟩, ⟨[115, 120], 0, 5, 333⟩, ⟨[117, 120], 0, 6, 336⟩, ⟨[119], 0, 12, 339⟩, ⟨[120], 0, 12, 342⟩, ⟨[121], 0, 12, 345⟩, ⟨[225], 0, 7, 348⟩, ⟨[233], 0, 8, 351⟩, ⟨[237], 0, 9, 354⟩, ⟨[243], 0, 10, 357⟩, ⟨[250], 0, 11, 360⟩]
theorem l_a_0 {W : Wx} : listOk W.K 362 T_a_0 := by kernel_rfl
theorem m_a_0 {W : Wx} : T_a_0.all (amOk W.K) = true := by kernel_rfl
theorem s_a_0 : A.tabB (T_a_0.map (·.s)) (T_a_0.map (·.sub)) = true := by decide +kernel
noncomputable def T_a_2 : List Am := [⟨[99, 105], (-1), (-1), 383⟩, ⟨[103, 105], (-1), (-1), 386⟩, ⟨[104, 105], (-1), (-1), 389⟩, ⟨[108, 105], (-1), (-1), 392⟩, ⟨[105, 108, 105], 3, (-1), 395⟩, ⟨[349, 108, 105], 3, (-1), 398⟩, ⟨[109, 105], (-1), (-1), 401⟩, ⟨[110, 105], (-1), (-1), 404⟩, ⟨[111, 110, 105], 7, (-1), 407⟩, ⟨[114, 105], (-1), (-1), 410⟩, ⟨[115, 105], (-1), (-1), 413⟩, ⟨[118, 105], (-1), (-1), 416⟩, ⟨[105, 118, 105], 11, (-1), 419⟩, ⟨[285, 105], (-1), (-1), 422⟩, ⟨[349, 105], (-1), (-1), 425⟩, ⟨[105, 349, 105], 14, (-1), 428⟩, ⟨[109, 97, 108, 349, 105], 14, (-1), 431⟩]
theorem l_a_2 {W : Wx} : listOk W.K 433 T_a_2 := by kernel_rfl
theorem m_a_2 {W : Wx} : T_a_2.all (amOk W.K) = true := by kernel_rfl
theorem s_a_2 : A.tabB (T_a_2.map (·.s.reverse)) (T_a_2.map (·.sub)) = true := by decide +kernel
noncomputable def T_a_4 : List Am := [⟨[97, 108, 105, 117], (-1), (-1), 496⟩, ⟨[117, 110, 117], (-1), (-1), 499⟩]
theorem l_a_4 {W : Wx} : listOk W.K 501 T_a_4 := by kernel_rfl
theorem m_a_4 {W : Wx} : T_a_4.all (amOk W.K) = true := by kernel_rfl
theorem s_a_4 : A.tabB (T_a_4.map (·.s.reverse)) (T_a_4.map (·.sub)) = true := by decide +kernel
noncomputable def T_a_5 : List Am := [⟨[97, 104, 97], (-1), (-1), 503⟩, ⟨[104, 97, 104, 97], 0, (-1), 506⟩, ⟨[104, 97, 108, 101, 108, 117, 106, 97], (-1), (-1), 509⟩, ⟨[104, 111, 108, 97], (-1), (-1), 512⟩, ⟨[104, 111, 115, 97, 110, 97], (-1), (-1), 515⟩, ⟨[109, 97, 108, 116, 114, 97], (-1), (-1), 518⟩, ⟨[104, 117, 114, 97], (-1), (-1), 521⟩, ⟨[293, 97, 293, 97], (-1), (-1), 524⟩, ⟨[101, 107, 100, 101], (-1), (-1), 527⟩, ⟨[101, 108, 100, 101], (-1), (-1), 530⟩, ⟨[100, 105, 115, 100, 101], (-1), (-1), 533⟩, ⟨[101, 104, 101], (-1), (-1), 536⟩, ⟨[109, 97, 108, 116, 114, 101], (-1), (-1), 539⟩, ⟨[100, 105, 114, 108, 105, 100, 105, 100, 105], (-1), (-1), 542⟩, ⟨[109, 97, 108, 112, 108, 105], (-1), (-1), 545⟩, ⟨[109, 97, 108, 265, 105], (-1), (-1), 548⟩, ⟨[109, 97, 108, 107, 97, 106], (-1), (-1), 551⟩, ⟨[97, 109, 101, 110], (-1), (-1), 554⟩, ⟨[116, 97, 109, 101, 110], 17, (-1), 557⟩, ⟨[111, 104, 111], (-1), (-1), 560⟩, ⟨[109, 97, 108, 116, 114, 111], (-1), (-1), 563⟩, ⟨[109, 105, 110, 117, 115], (-1), (-1), 566⟩, ⟨[117, 104, 117], (-1), (-1), 569⟩, ⟨[109, 117, 117], (-1), (-1), 572⟩]
theorem l_a_5 {W : Wx} : listOk W.K 574 T_a_5 := by kernel_rfl
theorem m_a_5 {W : Wx} : T_a_5.all (amOk W.K) = true := by kernel_rfl
theorem s_a_5 : A.tabB (T_a_5.map (·.s.reverse)) (T_a_5.map (·.sub)) = true := by decide +kernel
noncomputable def T_a_6 : List Am := [⟨[116, 114, 105], (-1), (-1), 576⟩, ⟨[100, 117], (-1), (-1), 579⟩, ⟨[117, 110, 117], (-1), (-1), 582⟩]
theorem l_a_6 {W : Wx} : listOk W.K 584 T_a_6 := by kernel_rfl
theorem m_a_6 {W : Wx} : T_a_6.all (amOk W.K) = true := by kernel_rfl
theorem s_a_6 : A.tabB (T_a_6.map (·.s.reverse)) (T_a_6.map (·.sub)) = true := by decide +kernel
noncomputable def T_a_7 : List Am := [⟨[100, 101, 107], (-1), (-1), 586⟩, ⟨[99, 101, 110, 116], (-1), (-1), 589⟩]
theorem l_a_7 {W : Wx} : listOk W.K 591 T_a_7 := by kernel_rfl
theorem m_a_7 {W : Wx} : T_a_7.all (amOk W.K) = true := by kernel_rfl
theorem s_a_7 : A.tabB (T_a_7.map (·.s.reverse)) (T_a_7.map (·.sub)) = true := by decide +kernel
noncomputable def T_a_8 : List Am := [⟨[107], (-1), (-1), 593⟩, ⟨[107, 101, 108, 107], 0, (-1), 596⟩, ⟨[110, 101, 110], (-1), (-1), 599⟩, ⟨[116], (-1), (-1), 602⟩, ⟨[109, 117, 108, 116], 3, (-1), 605⟩, ⟨[115, 97, 109, 116], 3, (-1), 608⟩, ⟨[265], (-1), (-1), 611⟩]
theorem l_a_8 {W : Wx} : listOk W.K 613 T_a_8 := by kernel_rfl
theorem m_a_8 {W : Wx} : T_a_8.all (amOk W.K) = true := by kernel_rfl
theorem s_a_8 : A.tabB (T_a_8.map (·.s.reverse)) (T_a_8.map (·.sub)) = true := by decide +kernel
noncomputable def T_a_9 : List Am := [⟨[97], (-1), (-1), 615⟩, ⟨[101], (-1), (-1), 618⟩, ⟨[105], (-1), (-1), 621⟩, ⟨[106], (-1), 1, 624⟩, ⟨[97, 106], 3, (-1), 627⟩, ⟨[111, 106], 3, (-1), 630⟩, ⟨[110], (-1), 1, 633⟩, ⟨[97, 110], 6, (-1), 636⟩, ⟨[101, 110], 6, (-1), 639⟩, ⟨[106, 110], 6, 1, 642⟩, ⟨[97, 106, 110], 9, (-1), 645⟩, ⟨[111, 106, 110], 9, (-1), 648⟩, ⟨[111, 110], 6, (-1), 651⟩, ⟨[111], (-1), (-1), 654⟩, ⟨[97, 115], (-1), (-1), 657⟩, ⟨[105, 115], (-1), (-1), 660⟩, ⟨[111, 115], (-1), (-1), 663⟩, ⟨[117, 115], (-1), (-1), 666⟩, ⟨[117], (-1), (-1), 669⟩]
theorem l_a_9 {W : Wx} : listOk W.K 671 T_a_9 := by kernel_rfl
theorem m_a_9 {W : Wx} : T_a_9.all (amOk W.K) = true := by kernel_rfl
theorem s_a_9 : A.tabB (T_a_9.map (·.s.reverse)) (T_a_9.map (·.sub)) = true := by decide +kernel
end
noncomputable section
open PySem PySem.W PySem.Calls PyProof.Rows Builtin
open H (Sets fEnd KF kf_in QV looseV PW)

set_option tactic.hygienic true in
theorem amOk_get {K : Frag} {m : Am} (h : amOk K m = true) : ∃ d sl od t t1 t2, K.lookup m.a = some ⟨.ref 220, some d, .plain, sl⟩ ∧ K.lookup d = some od ∧ findObj K 220 (some od) "s" = some (.value (.str (sx m.s) t)) ∧
    findObj K 220 (some od) "substring_i" = some (.value (.int m.sub t1)) ∧ findObj K 220 (some od) "result" = some (.value (.int m.res t2)) := by
  unfold amOk at h
  split at h
  · rename_i d sl h1
    split at h
    · rename_i od h2
      simp only [Bool.and_eq_true] at h
      obtain ⟨⟨a, b⟩, c⟩ := h
      split at a
      · rename_i x t h3
        split at b
        · rename_i i t1 h4
          split at c
          · rename_i j t2 h5
            rw [beq_iff_eq] at a b c
            subst a b c
            exact ⟨d, sl, od, t, t1, t2, h1, h2, h3, h4, h5⟩
          · cases c
        · cases b
      · cases a
    · cases h
  · cases h
theorem listOk_get {K : Frag} {t : Addr} {T : List Am} (h : listOk K t T) : ∃ o n, K.lookup t = some o ∧ o.cls = .type "list" ∧ o.data = .seq (T.map fun m => Value.ref m.a).toArray n :=
  let ⟨o, h1, h2⟩ := Option.bind_eq_some_iff.mp h
  let ⟨n, h3, h4⟩ := isL_eq h2
  ⟨o, n, h1, h3, h4⟩
section
variable {W : Wx} {fn : Fn} {σ : St}
theorem EV.tabitem {o ix : Expr} {p : Pos} {t : Addr} {T : List Am} {Q : AV → St → Prop} (hl : listOk W.K t T) (hz : T.length ≤ 1000) (h : EV W fn o σ fun a σ1 => a = .val (.ref t) ∧ EV W fn ix σ1 fun b σ2 => ∃ i : Nat, b = .int i ∧ i < T.length ∧ Q (.val (.ref (T.getD i dAm).a)) σ2)
    (hs : ∀ t k u, subscripted ix false (.ref t) (.int k u) = operate [.ref t, .int k u] (getItem (.ref t) (.int k u)) := by intro _ _ _; with_unfolding_all rfl) : EV W fn (.Subscript o ix p) σ Q := by
  refine ⟨fun g A S P E hg I k => Subscript_ (h.run g A S _ E hg I fun u S1 a σ1 h1 I1 r1 s1 => ?_)⟩
  obtain ⟨rfl, h2⟩ := h1
  cases r1
  refine h2.run g A S1 _ E hg I1 fun v S2 b σ2 h3 I2 r2 s2 => ?_
  obtain ⟨i, rfl, hi, hq⟩ := h3
  obtain ⟨u, rfl⟩ := r2
  obtain ⟨o', n, e1, e2, e3⟩ := listOk_get hl
  have hL : S2.heap.IsList t (T.map fun m => Value.ref m.a).toArray := ⟨o', I2.k _ _ e1, e2, n, e3⟩
  refine tail_any hL.typeIs slot_list_getitem.lookup (wpAny_getItem_list (x := .ref (T.getD i dAm).a) hL (by omega) (by omega) ?_ (k _ _ _ _ hq I2 rfl (s1.trans s2))) (hs _ _ _)
  show (T.map fun m => Value.ref m.a).toArray[((i : Nat) : Int).toNat]? = _
  rw [Int.toNat_natCast, List.getElem?_toArray, List.getElem?_map, List.getElem?_eq_getElem hi, List.getD_eq_getElem?_getD, List.getElem?_eq_getElem hi]
  rfl
theorem EV.am_s {n : Str} {np p : Pos} {m : Am} {Q : AV → St → Prop} (hm : amOk W.K m = true) (h : EV W fn (.Name n np) σ fun b σ1 => b = .val (.ref m.a) ∧ Q (.str m.s) σ1) : EV W fn (.Attribute (.Name n np) "s" p) σ Q := by
  obtain ⟨d, sl, od, t, t1, t2, h1, h2, h3, h4, h5⟩ := amOk_get hm
  exact EV.fixed h (fun _ => ⟨t, rfl⟩) h1 h2 (by kernel_rfl) h3 rfl
theorem EV.am_sub {n : Str} {np p : Pos} {m : Am} {Q : AV → St → Prop} (hm : amOk W.K m = true) (h : EV W fn (.Name n np) σ fun b σ1 => b = .val (.ref m.a) ∧ Q (.int m.sub) σ1) : EV W fn (.Attribute (.Name n np) "substring_i" p) σ Q := by
  obtain ⟨d, sl, od, t, t1, t2, h1, h2, h3, h4, h5⟩ := amOk_get hm
  exact EV.fixed h (fun _ => ⟨t1, rfl⟩) h1 h2 (by kernel_rfl) h4 rfl
theorem EV.am_res {n : Str} {np p : Pos} {m : Am} {Q : AV → St → Prop} (hm : amOk W.K m = true) (h : EV W fn (.Name n np) σ fun b σ1 => b = .val (.ref m.a) ∧ Q (.int m.res) σ1) : EV W fn (.Attribute (.Name n np) "result" p) σ Q := by
  obtain ⟨d, sl, od, t, t1, t2, h1, h2, h3, h4, h5⟩ := amOk_get hm
  exact EV.fixed h (fun _ => ⟨t2, rfl⟩) h1 h2 (by kernel_rfl) h5 rfl
end
end
noncomputable section
open PySem PySem.W PySem.Calls PyProof.Rows Builtin
open H (Sets fEnd KF kf_in QV looseV PW)
section
variable (x : Str) (ob : Option (Addr × Addr)) (fl : List (Str × AV)) (Q : AF → St → Prop) (QV : AV → St → Prop) (W : Wx) (fn : Fn)
abbrev qA (a : AV) (σ' : St) : Prop := ∃ l, σ' = ⟨l, ob, fl, none⟩ ∧ Q .next ⟨(x, a) :: l, ob, fl, none⟩
abbrev qU (op : Operator) (o a : AV) (σ' : St) : Prop := ∃ l c, σ' = ⟨l, ob, fl, none⟩ ∧ iopA op o a = some c ∧ Q .next ⟨(x, c) :: l, ob, fl, none⟩
abbrev qNeg (a : AV) (σ1 : St) : Prop := ∃ i : Int, a = .int i ∧ QV (.int (-i)) σ1
abbrev qF (f : String) (a : AV) (σ1 : St) : Prop := ∃ c, blt1 W.K f a = some c ∧ QV c σ1
abbrev qM1 (a b : AV) (σ2 : St) : Prop := ∃ i j : Int, a = .int i ∧ b = .int j ∧ QV (.int (min i j)) σ2
abbrev qM (e2 : Expr) (a : AV) (σ1 : St) : Prop := EV W fn e2 σ1 (qM1 QV a)
end
section
variable (x dx : Addr) (loc : List (Str × AV)) (Q : AF → St → Prop) (a : AV) (σ' : St)
abbrev qCu : Prop := ∃ n : Nat, ∃ F', a = .int n ∧ σ' = Sm x dx F' loc ∧ Q .next (Sm x dx { F' with cu := n } loc)
abbrev qLi : Prop := ∃ n : Nat, ∃ F', a = .int n ∧ σ' = Sm x dx F' loc ∧ Q .next (Sm x dx { F' with li := n } loc)
abbrev qLb : Prop := ∃ n : Nat, ∃ F', a = .int n ∧ σ' = Sm x dx F' loc ∧ Q .next (Sm x dx { F' with lb := n } loc)
abbrev qBr : Prop := ∃ n : Nat, ∃ F', a = .int n ∧ σ' = Sm x dx F' loc ∧ Q .next (Sm x dx { F' with br := n } loc)
abbrev qKt : Prop := ∃ n : Nat, ∃ F', a = .int n ∧ σ' = Sm x dx F' loc ∧ Q .next (Sm x dx { F' with ke := n } loc)
end
theorem lk_here {x : Str} {a : AV} {l : List (Str × AV)} : ((x, a) :: l).lookup x = some a := by rw [List.lookup_cons, beq_self_eq_true]
theorem lk_skip {x y : Str} {a b : AV} {l : List (Str × AV)} (h : (x == y) = false) (k : l.lookup x = some a) : ((y, b) :: l).lookup x = some a := by rw [List.lookup_cons, h]; exact k
section
variable {W : Wx} {fn : Fn} {loc : List (Str × AV)} {ob : Option (Addr × Addr)} {fl : List (Str × AV)}
theorem nm {x : Str} {p : Pos} {a : AV} {Q : AV → St → Prop} (hx : fn.sc.names.lookup x = some .local) (hd : (x == ("__debug__" : Str)) = false) (hl : loc.lookup x = some a) (h : Q a ⟨loc, ob, fl, none⟩) : EV W fn (.Name x p) ⟨loc, ob, fl, none⟩ Q := EV.name hl h hx hd
theorem asg {x : Str} {p p' : Pos} {e : Expr} {Q : AF → St → Prop} (hx : fn.sc.names.lookup x = some .local) (hs : ∀ env, swapsWith e (some (.Name x p')) p.line env = pure false) (h : EV W fn e ⟨loc, ob, fl, none⟩ (qA x ob fl Q)) : EX1 W fn (.Assign [.Name x p'] e p) ⟨loc, ob, fl, none⟩ Q :=
  EX1.assign (h.mono fun a σ' hh => by obtain ⟨l, rfl, hq⟩ := hh; exact ⟨fun _ q => (nomatch q), hq⟩) hx hs
theorem aug {x : Str} {p p' : Pos} {op : Operator} {e : Expr} {o : AV} {Q : AF → St → Prop} (hx : fn.sc.names.lookup x = some .local) (hl : loc.lookup x = some o)
    (h : EV W fn e ⟨loc, ob, fl, none⟩ (qU x ob fl Q op o)) : EX1 W fn (.AugAssign (.Name x p') op e p) ⟨loc, ob, fl, none⟩ Q :=
  EX1.aug hl (h.mono fun a σ' hh => by obtain ⟨l, c, rfl, e, hq⟩ := hh; exact ⟨fun _ q => (nomatch q), c, e, hq⟩) hx
theorem weak {ss : List Stmt} {l : List (Str × AV)} {Q : AF → St → Prop} (h : EX W fn ss ⟨l, ob, fl, none⟩ Q) (k : ∀ p ∈ l, loc.lookup p.1 = some p.2) : EX W fn ss ⟨loc, ob, fl, none⟩ Q := EX.weak (σ := ⟨loc, ob, fl, none⟩) h k
theorem Boot_len : bootBuiltins "len" = some (.builtin "len") := by decide +kernel
theorem Boot_min : bootBuiltins "min" = some (.builtin "min") := by decide +kernel
theorem Boot_ord : bootBuiltins "ord" = some (.builtin "ord") := by decide +kernel
theorem g_len : nsIn W.K mainGlobals "len" = some none := by kernel_rfl
theorem g_min : nsIn W.K mainGlobals "min" = some none := by kernel_rfl
theorem g_ord : nsIn W.K mainGlobals "ord" = some none := by kernel_rfl
theorem EV.neg {W : Wx} {fn : Fn} {σ : St} {e : Expr} {p : Pos} {Q : AV → St → Prop} (h : EV W fn e σ (qNeg Q)) : EV W fn (.UnaryOp .USub e p) σ Q := by
  refine ⟨fun g A S P E hg I k => UnaryOp_ (h.run g A S _ E hg I fun u S1 a σ1 h1 I1 r1 s1 => ?_)⟩
  obtain ⟨i, rfl, hq⟩ := h1
  obtain ⟨t, rfl⟩ := r1
  exact PySem.P.neg_int (k _ _ _ _ hq (I1.toks _) ⟨_, rfl⟩ s1)
theorem len_strA {K : Frag} {l : List Nat} (h : l.length ≤ 1000) : blt1 K "len" (.str l) = some (.int l.length) := blt_len rfl h
section
variable {W : Wx} {fn : Fn} {σ : St} {np p : Pos} {e e2 : Expr}
theorem lenC {Q : AV → St → Prop} (hk : fn.sc.kind = .function) (hx : fn.sc.names.lookup ("len" : Str) = some .globalImplicit) (hst : ∀ env, starEach [e] env = [(false, eval e env)]) (h : EV W fn e σ (qF Q W "len")) : EV W fn (.Call (.Name ("len" : Str) np) [e] [] p) σ Q := EV.call1 g_len Boot_len h (by decide) hk hx (by decide) hst
theorem ordC {Q : AV → St → Prop} (hk : fn.sc.kind = .function) (hx : fn.sc.names.lookup ("ord" : Str) = some .globalImplicit) (hst : ∀ env, starEach [e] env = [(false, eval e env)]) (h : EV W fn e σ (qF Q W "ord")) : EV W fn (.Call (.Name ("ord" : Str) np) [e] [] p) σ Q := EV.call1 g_ord Boot_ord h (by decide) hk hx (by decide) hst
theorem minC {Q : AV → St → Prop} (hk : fn.sc.kind = .function) (hx : fn.sc.names.lookup ("min" : Str) = some .globalImplicit) (hst : ∀ env, starEach [e, e2] env = [(false, eval e env), (false, eval e2 env)]) (h : EV W fn e σ (qM Q W fn e2)) : EV W fn (.Call (.Name ("min" : Str) np) [e, e2] [] p) σ Q := EV.min2 g_min Boot_min h (by decide) hk hx (by decide) hst
theorem cmpT {l r : Expr} {op : CmpOp} {Q : Bool → St → Prop} (hm : behindInMarks op r = false) (h : EV W fn l σ (qC W fn op r Q)) : TR W fn (.Compare l [op] [r] p) σ Q := TR.cmp h hm
theorem cmpE {l r : Expr} {op : CmpOp} {Q : AV → St → Prop} (hm : behindInMarks op r = false) (h : EV W fn l σ (qCe W fn op r Q)) : EV W fn (.Compare l [op] [r] p) σ Q := EV.cmp h hm
theorem arC {es : List Expr} {Q : List AV → St → Prop} (he : ∀ env, starEach (e :: es) env = (false, eval e env) :: starEach es env) (h : EV W fn e σ (qAr W fn p es Q)) : AR W fn p (e :: es) σ Q := AR.cons h he
end
theorem tplain {W : Wx} {fn : Fn} {σ : St} {e : Expr} {Q : Bool → St → Prop} (he : ∀ env, isTrue e env (eval e env) = (do let v ← eval e env; standAt e.pos; holding [v] (truthy v))) (h : EV W fn e σ (qP Q)) : TR W fn e σ Q := TR.plain h he
section
variable {W : Wx} {fn : Fn} {op : CmpOp} {bo : Operator} {a b c o : AV} {cb : Bool} {QB : Bool → St → Prop} {QV : AV → St → Prop} {Q : AF → St → Prop} {σ : St} {f : String} {x : Str} {l : List (Str × AV)} {ob : Option (Addr × Addr)} {fl : List (Str × AV)}
theorem kI (e : cmpA op a b = some cb) (h : QB cb σ) : qK op a QB b σ := ⟨_, e, h⟩
theorem keI (e : cmpA op a b = some cb) (h : QV (.bool cb) σ) : qKe op a QV b σ := ⟨_, e, h⟩
theorem bI (e : binA bo a b = some c) (h : QV c σ) : qB1 bo a QV b σ := ⟨_, e, h⟩
theorem pI (e : truA a = some cb) (h : QB cb σ) : qP QB a σ := ⟨_, e, h⟩
theorem fI (e : blt1 W.K f a = some c) (h : QV c σ) : qF QV W f a σ := ⟨_, e, h⟩
theorem aI (h : Q .next ⟨(x, a) :: l, ob, fl, none⟩) : qA x ob fl Q a ⟨l, ob, fl, none⟩ := ⟨_, rfl, h⟩
theorem uI (e : iopA bo o a = some c) (h : Q .next ⟨(x, c) :: l, ob, fl, none⟩) : qU x ob fl Q bo o a ⟨l, ob, fl, none⟩ := ⟨_, _, rfl, e, h⟩
end
theorem fa_nil {loc : List (Str × AV)} : ∀ p ∈ ([] : List (Str × AV)), loc.lookup p.1 = some p.2 := fun p h => (nomatch h)
theorem fa_cons {loc l : List (Str × AV)} {x : Str} {a : AV} (h : loc.lookup x = some a) (k : ∀ p ∈ l, loc.lookup p.1 = some p.2) : ∀ p ∈ (x, a) :: l, loc.lookup p.1 = some p.2 := fun p hp => by
  rcases List.mem_cons.mp hp with rfl | hp
  · exact h
  · exact k p hp
theorem fa_push {loc l : List (Str × AV)} {x : Str} {a : AV} (k : ∀ p ∈ l, loc.lookup p.1 = some p.2) (h : (l.all fun p => !(p.1 == x)) = true) : ∀ p ∈ l, ((x, a) :: loc).lookup p.1 = some p.2 := fun p hp => by
  have := List.all_eq_true.mp h p hp
  exact lk_skip (by simpa using this) (k p hp)
theorem EX1.cut {s : Stmt} {σ : St} {Q : AF → St → Prop} (P : St → Prop) (h : EX1 W fn s σ fun f σ' => f = .next ∧ P σ') (k : ∀ σ', P σ' → Q .next σ') : EX1 W fn s σ Q := by
  refine ⟨fun g A S P' E hg I k1 k2 => h.run g A S P' E hg I (fun f S' fl σ' hq I' hf => ?_) (fun e S' kk σ' hq => nomatch hq.1)⟩
  obtain ⟨rfl, hp⟩ := hq
  exact k1 _ _ .next _ (k _ hp) I' hf
end
section
variable {W : Wx} {fn : Fn} {x dx : Addr} {F : Fd} {loc : List (Str × AV)} {np p : Pos}
theorem setCu {p' : Pos} {e : Expr} {Q : AF → St → Prop} (M : MS fn) (hs : loc.lookup ("self" : Str) = some (.val (.ref x))) (hsw : ∀ env, swapsWith e (some (.Attribute (.Name "self" np) "cursor" p')) p.line env = pure false)
    (h : EV W fn e (Sm x dx F loc) (qCu x dx loc Q)) : EX1 W fn (.Assign [.Attribute (.Name "self" np) "cursor" p'] e p) (Sm x dx F loc) Q :=
  EX1.setF M hs nf_cursor (h.mono fun a σ' hh => by obtain ⟨n, F', rfl, rfl, hq⟩ := hh; exact ⟨F', _, rfl, put_cursor F' n rfl, hq⟩) hsw
theorem setLi {p' : Pos} {e : Expr} {Q : AF → St → Prop} (M : MS fn) (hs : loc.lookup ("self" : Str) = some (.val (.ref x))) (hsw : ∀ env, swapsWith e (some (.Attribute (.Name "self" np) "limit" p')) p.line env = pure false)
    (h : EV W fn e (Sm x dx F loc) (qLi x dx loc Q)) : EX1 W fn (.Assign [.Attribute (.Name "self" np) "limit" p'] e p) (Sm x dx F loc) Q :=
  EX1.setF M hs nf_limit (h.mono fun a σ' hh => by obtain ⟨n, F', rfl, rfl, hq⟩ := hh; exact ⟨F', _, rfl, put_limit F' n rfl, hq⟩) hsw
theorem setLb {p' : Pos} {e : Expr} {Q : AF → St → Prop} (M : MS fn) (hs : loc.lookup ("self" : Str) = some (.val (.ref x))) (hsw : ∀ env, swapsWith e (some (.Attribute (.Name "self" np) "limit_backward" p')) p.line env = pure false)
    (h : EV W fn e (Sm x dx F loc) (qLb x dx loc Q)) : EX1 W fn (.Assign [.Attribute (.Name "self" np) "limit_backward" p'] e p) (Sm x dx F loc) Q :=
  EX1.setF M hs nf_lb (h.mono fun a σ' hh => by obtain ⟨n, F', rfl, rfl, hq⟩ := hh; exact ⟨F', _, rfl, put_lb F' n rfl, hq⟩) hsw
theorem setBr {p' : Pos} {e : Expr} {Q : AF → St → Prop} (M : MS fn) (hs : loc.lookup ("self" : Str) = some (.val (.ref x))) (hsw : ∀ env, swapsWith e (some (.Attribute (.Name "self" np) "bra" p')) p.line env = pure false)
    (h : EV W fn e (Sm x dx F loc) (qBr x dx loc Q)) : EX1 W fn (.Assign [.Attribute (.Name "self" np) "bra" p'] e p) (Sm x dx F loc) Q :=
  EX1.setF M hs nf_bra (h.mono fun a σ' hh => by obtain ⟨n, F', rfl, rfl, hq⟩ := hh; exact ⟨F', _, rfl, put_bra F' n rfl, hq⟩) hsw
theorem setKe {p' : Pos} {e : Expr} {Q : AF → St → Prop} (M : MS fn) (hs : loc.lookup ("self" : Str) = some (.val (.ref x))) (hsw : ∀ env, swapsWith e (some (.Attribute (.Name "self" np) "ket" p')) p.line env = pure false)
    (h : EV W fn e (Sm x dx F loc) (qKt x dx loc Q)) : EX1 W fn (.Assign [.Attribute (.Name "self" np) "ket" p'] e p) (Sm x dx F loc) Q :=
  EX1.setF M hs nf_ket (h.mono fun a σ' hh => by obtain ⟨n, F', rfl, rfl, hq⟩ := hh; exact ⟨F', _, rfl, put_ket F' n rfl, hq⟩) hsw
end
theorem EX1.cut2 {W : Wx} {fn : Fn} {s : Stmt} {σ : St} {Q : AF → St → Prop} (P : St → Prop) (h : EX1 W fn s σ (qN P Q)) (k : ∀ σ', P σ' → Q .next σ') : EX1 W fn s σ Q := by
  refine ⟨fun g A S P' E hg I k1 k2 => h.run g A S P' E hg I (fun f S' fl σ' hq I' hf => ?_) (fun e S' kk σ' hq I' hx => k2 e S' kk σ' hq I' hx)⟩
  cases fl with
  | next => exact k1 _ _ .next _ (k _ hq) I' hf
  | brk => exact k1 _ _ .brk _ hq I' hf
  | cont => exact k1 _ _ .cont _ hq I' hf
  | ret a => exact k1 _ _ (.ret a) _ hq I' hf
  | exc k => exact k1 _ _ (.exc k) _ hq I' hf
section
variable {W : Wx} {fn : Fn} {σ : St} {np cp p pp hp : Pos} {Q : AF → St → Prop}
theorem rs0 (hk : fn.sc.kind = .function) (hx : fn.sc.names.lookup ("lab0" : Str) = some .globalImplicit) (h : Q (.exc false) σ) : EX1 W fn (.Raise (some (.Call (.Name "lab0" np) [] [] cp)) none p) σ Q := EX1.raise false g_lab0 h hk hx (by decide)
theorem rs1 (hk : fn.sc.kind = .function) (hx : fn.sc.names.lookup ("lab1" : Str) = some .globalImplicit) (h : Q (.exc true) σ) : EX1 W fn (.Raise (some (.Call (.Name "lab1" np) [] [] cp)) none p) σ Q := EX1.raise true g_lab1 h hk hx (by decide)
theorem tr0 {body : List Stmt} (hk : fn.sc.kind = .function) (hx : fn.sc.names.lookup ("lab0" : Str) = some .globalImplicit) (h : EX W fn body σ (qT false Q)) : EX1 W fn (.Try body [.ExceptHandler (some (.Name "lab0" np)) none [.Pass pp] hp] [] [] p) σ Q := EX1.try_ false g_lab0 h hk hx (by decide)
theorem tr1 {body : List Stmt} (hk : fn.sc.kind = .function) (hx : fn.sc.names.lookup ("lab1" : Str) = some .globalImplicit) (h : EX W fn body σ (qT true Q)) : EX1 W fn (.Try body [.ExceptHandler (some (.Name "lab1" np)) none [.Pass pp] hp] [] [] p) σ Q := EX1.try_ true g_lab1 h hk hx (by decide)
end
end
open PySem PySem.W PySem.Calls PyProof.Rows Builtin
set_option compiler.extract_closed false
local macro_rules | `(tactic| l_ints) => `(tactic| first | with_reducible assumption | with_reducible exact lk_here | ((with_reducible apply lk_skip); (kernel_rfl); l_ints))
local macro_rules | `(tactic| walk_at "w1") => `(tactic| first
  | ((with_reducible apply nm); (kernel_rfl); (kernel_rfl); (l_ints))
  | with_reducible (first | apply EV.cint | apply EV.cstr | apply EV.cbool | apply EV.bin | apply EV.neg | apply AR.nil | apply TR.true_ | apply TR.not | apply TR.and | apply EX.cons | apply EX.nil | apply EX1.if_ | apply EX1.ret | apply EX1.brk | apply EX1.cont | apply EX1.pass)
  | ((with_reducible (first | apply EV.cursor | apply EV.limit | apply EV.lb | apply EV.bra | apply EV.ket | apply EV.current)); (assumption); (l_ints))
  | ((with_reducible (first | apply lenC | apply ordC | apply minC)); (kernel_rfl); (kernel_rfl); (intro env; rfl))
  | ((with_reducible apply arC); (intro env; with_unfolding_all rfl))
  | ((with_reducible apply cmpT); (with_unfolding_all rfl))
  | ((with_reducible apply tplain); (intro env; rfl))
  | ((with_reducible apply asg); (kernel_rfl); (intro env; rfl))
  | ((with_reducible apply aug); (kernel_rfl); (l_ints))
  | ((with_reducible (first | apply setCu | apply setLb | apply setBr | apply setKe | apply setLi)); (assumption); (l_ints); (intro env; rfl))
  | ((with_reducible (first | apply rs0 | apply rs1)); (kernel_rfl); (kernel_rfl))
  | (refine ⟨_, rfl, ?_⟩)
  | with_reducible refine ⟨_, _, rfl, rfl, ?_⟩)
local macro_rules | `(tactic| walk_at "w") => `(tactic| repeat (walk_at "w1"; try dsimp only))
local macro_rules | `(tactic| walk_at "fa") => `(tactic| repeat (first | ((with_reducible apply fa_cons); (l_ints)) | with_reducible exact fa_nil))
noncomputable section
open PySem PySem.W PySem.Calls PyProof.Rows Builtin
open H (Sets fEnd KF kf_in QV looseV PW)

theorem ms_find_among_b : MS F_find_among_b := ⟨by kernel_rfl, by kernel_rfl⟩
noncomputable def back (F : Fd) : List Nat := ((F.cur.take F.cu).drop F.lb).reverse
theorem back_len {F : Fd} (wf : Wf F) (h : F.lb ≤ F.cu) : (back F).length = F.cu - F.lb := by
  have := wf.c; have := wf.l
  unfold back
  simp only [List.length_reverse, List.length_drop, List.length_take]
  lia
theorem back_get {F : Fd} (wf : Wf F) (h : F.lb ≤ F.cu) {m : Nat} (hm : m < F.cu - F.lb) : (back F).getD m 0 = F.cur.getD (F.cu - 1 - m) 0 := by
  have w1 := wf.c; have w2 := wf.l
  unfold back
  rw [List.getD_eq_getElem?_getD, List.getD_eq_getElem?_getD, List.getElem?_reverse (by simp only [List.length_drop, List.length_take]; lia)]
  simp only [List.length_drop, List.length_take, List.getElem?_drop, List.getElem?_take]
  rw [if_pos (by omega)]
  congr 2
  lia
theorem rev_get (s : List Nat) {m : Nat} (hm : m < s.length) : s.reverse.getD m 0 = s.getD (s.length - 1 - m) 0 := by
  rw [List.getD_eq_getElem?_getD, List.getD_eq_getElem?_getD, List.getElem?_reverse hm]
theorem len_tab {W : Wx} {t : Addr} {T : List Am} (hl : listOk W.K t T) (hz : T.length ≤ 1000) : blt1 W.K "len" (.val (.ref t)) = some (.int T.length) := by
  refine blt_len ?_ hz
  exact (congrArg (Option.map List.length) hl).trans (congrArg some (List.length_map ..))
theorem forall_mem {l : List (Str × AV)} {loc : List (Str × AV)} (h : ∀ p ∈ l, loc.lookup p.1 = some p.2) : ∀ p ∈ l, loc.lookup p.1 = some p.2 := h
noncomputable def clE (x t : Addr) (F : Fd) (i ci : Nat) : List (Str × AV) := [("i", .int i), ("common_i", .int ci), ("c", .int F.cu), ("self", .val (.ref x)), ("v", .val (.ref t))]
noncomputable def clB (x t : Addr) (F : Fd) (i j ci cj : Nat) (fi : Bool) : List (Str × AV) := [("i", .int i), ("j", .int j), ("common_i", .int ci), ("common_j", .int cj), ("first_key_inspected", .bool fi), ("c", .int F.cu), ("lb", .int F.lb), ("self", .val (.ref x)), ("v", .val (.ref t))]
set_option maxHeartbeats 1000000 in
theorem find_b {W : Wx} {x dx t : Addr} {T : List Am} {F : Fd} {Q : AV → List (Str × AV) → Prop} (hl : listOk W.K t T) (hm : T.all (amOk W.K) = true) (hz : T.length ≤ 1000) (wf : Wf F) (hlb : F.lb ≤ F.cu)
    (tb : A.Tab (fun i => (T.getD i dAm).s.reverse) (fun i => (T.getD i dAm).sub) T.length) (hs : ∀ i, (T.getD i dAm).s.length ≤ 500)
    (h : ∀ r, A.Best (fun i => (T.getD i dAm).s.reverse) T.length (back F) r → match r with
      | some i => Q (.int (T.getD i dAm).res) (FL { F with cu := F.cu - (T.getD i dAm).s.length })
      | none => Q (.int 0) (FL F)) : CallOK W 140 0 [.val (.ref x), .val (.ref t)] (some (x, dx)) (FL F) Q := by
  have M := ms_find_among_b
  refine call_find_among_b rfl ?_
  refine EX.cons ?_
  show EX1 W F_find_among_b _ (Sm x dx F [("self", .val (.ref x)), ("v", .val (.ref t))]) _
  walk_at "w"
  refine ⟨_, len_tab hl hz, _, rfl, ?_⟩
  walk_at "w"
  let Pq1 : St → Prop := fun σ => ∃ i ci : Nat, (∀ p ∈ clE x t F i ci, σ.loc.lookup p.1 = some p.2) ∧ σ.ob = some (x, dx) ∧ σ.fl = FL F ∧ σ.ml = none ∧ A.Ends (fun i => (T.getD i dAm).s.reverse) T.length (back F) i ci
  refine EX1.cut Pq1 ?_ ?_
  let Pq2 : Nat → St → Prop := fun nn σ => ∃ i j ci cj : Nat, ∃ fi : Bool, (∀ p ∈ clB x t F i j ci cj fi, σ.loc.lookup p.1 = some p.2) ∧ σ.ob = some (x, dx) ∧ σ.fl = FL F ∧ σ.ml = none ∧
    A.Srch (fun i => (T.getD i dAm).s.reverse) T.length (back F) i j ci cj ∧ (fi = true → i = 0 ∧ j = 1) ∧ (fi = false → i + 2 ≤ j) ∧ nn = 2 * (j - i) + (if fi then 0 else 1)
  refine EX1.while_ Pq2 (fun nn σ hJ => ?_) (2 * T.length + 1) ⟨0, T.length, 0, 0, false, ?_, rfl, rfl, rfl, A.Srch.start tb, (fun q => by cases q), (fun _ => by have := tb.two; omega), (by simp)⟩
  · obtain ⟨loc, ob, fl, ml⟩ := σ
    obtain ⟨i, j, ci, cj, fi, hloc, rfl, rfl, rfl, S, h1, h2, rfl⟩ := hJ
    dsimp only at hloc
    refine TR.true_ ?_
    rw [if_pos rfl]
    refine weak ?_ hloc
    unfold clB
    walk_at "w"
    have n2 := tb.two
    obtain ⟨kk, hkk⟩ : ∃ kk : Nat, kk = i + (j - i) / 2 := ⟨_, rfl⟩
    have ij := S.ij
    have jn := S.jn
    have ik : i ≤ kk := by lia
    have kj : kk < j := by lia
    have ek : (i : Int) + ((j : Int) - i).fdiv (2 ^ Int.toNat 1) = kk := by
      rw [show (2 ^ Int.toNat 1 : Int) = 2 from rfl, Int.fdiv_eq_ediv_of_nonneg _ (by lia)]
      lia
    rw [ek]
    have hshare := S.share tb ik kj
    obtain ⟨c0, hc0⟩ : ∃ c0 : Nat, c0 = min ci cj := ⟨_, rfl⟩
    have ec : min (ci : Int) cj = c0 := by omega
    obtain ⟨m, hmm⟩ : ∃ m, m = T.getD kk dAm := ⟨_, rfl⟩
    have hkT : kk < T.length := by exact Nat.lt_of_lt_of_le ‹_› ‹_›
    have hma : amOk W.K m = true := by
      have := List.all_eq_true.mp hm m
      apply this
      rw [hmm, List.getD_eq_getElem?_getD, List.getElem?_eq_getElem hkT]
      exact List.getElem_mem hkT
    have hms : m.s.length ≤ 500 := hmm ▸ hs kk
    rw [ec]
    refine EV.tabitem hl hz ?_
    walk_at "w"
    refine ⟨rfl, ?_⟩
    walk_at "w"
    refine ⟨hkT, _, rfl, ?_⟩
    rw [← hmm]
    walk_at "w"
    have w1 := wf.c
    have w2 := wf.l
    have w3 := wf.z
    have hbl := back_len wf hlb
    have hkey : (fun i => (T.getD i dAm).s.reverse) kk = m.s.reverse := by rw [hmm]
    dsimp only at hkey
    have hsh : c0 ≤ A.lcp m.s.reverse (back F) := by rw [← hkey, hc0]; exact hshare
    have hl1 := A.lcp_le_l m.s.reverse (back F)
    have hl2 := A.lcp_le_r m.s.reverse (back F)
    rw [List.length_reverse] at hl1
    let cl2 : Nat → Int → List (Str × AV) := fun cc d => ("w", .val (.ref m.a)) :: ("common", .int (cc : Nat)) :: ("diff", .int d) :: ("k", .int (kk : Nat)) :: clB x t F i j ci cj fi
    let Pq3 : St → Prop := fun σ' => ∃ d : Int, (∀ p ∈ cl2 (A.lcp m.s.reverse (back F)) d, σ'.loc.lookup p.1 = some p.2) ∧ σ'.ob = some (x, dx) ∧ σ'.fl = FL F ∧ σ'.ml = none ∧ decide (d < 0) = A.lt (back F) m.s.reverse
    refine EX1.cut Pq3 ?_ ?_
    · let Pq4 : Nat → St → Prop := fun q σ => (∀ p ∈ cl2 (c0 + q) 0, σ.loc.lookup p.1 = some p.2) ∧ σ.ob = some (x, dx) ∧ σ.fl = FL F ∧ σ.ml = none ∧ c0 + q ≤ A.lcp m.s.reverse (back F)
      refine EX1.for_ (n := m.s.length - c0) (vals := fun q => .int ((m.s.length : Int) - 1 - c0 + q * (-1))) Pq4
        (IT.range ((m.s.length : Int) - 1 - c0) (-1) (-1) ?_ (small_down (by lia) (by lia) (by lia) (by lia)) (.inr rfl) (by rw [size_down]; split <;> lia) (fun _ _ => rfl) (by kernel_rfl) (by kernel_rfl)) (fun q σ hq hJ => ?_) (fun σ hJ => ?_) (by kernel_rfl)
      · -- the range
        walk_at "w"
        refine EV.am_s hma ?_
        walk_at "w"
        refine ⟨rfl, .int m.s.length, len_strA (by lia), ?_⟩
        walk_at "w"
        refine ⟨.inl rfl, ?_, rfl, rfl, rfl, by simpa using hsh⟩
        show ∀ p ∈ (_, _) :: (_, _) :: (_, _) :: (_, _) :: clB x t F i j ci cj fi, _
        unfold clB
        rw [Nat.add_zero]
        walk_at "fa"
      · -- a turn
        obtain ⟨loc2, ob2, fl2, ml2⟩ := σ
        obtain ⟨g1, rfl, rfl, rfl, g5⟩ := hJ
        dsimp only at g1
        refine ⟨fun _ z => (nomatch z), weak (l := ("i2", .int ((m.s.length : Int) - 1 - c0 + q * (-1))) :: cl2 (c0 + q) 0) ?_ (fa_cons lk_here (fa_push g1 (by kernel_rfl)))⟩
        show EX W F_find_among_b _ ⟨("i2", _) :: ("w", _) :: ("common", _) :: ("diff", _) :: ("k", _) :: clB x t F i j ci cj fi, _, _, _⟩ _
        unfold clB
        walk_at "w"
        by_cases hend : c0 + q = F.cu - F.lb
        · -- the text is at its end
          have e1 : c0 + q = A.lcp m.s.reverse (back F) := by lia
          rw [show ((F.cu : Int) - ((c0 + q : Nat) : Int) == F.lb) = true from by rw [beq_iff_eq]; lia]
          refine ifP rfl ?_
          walk_at "w"
          refine ⟨rfl, -1, ?_, rfl, rfl, rfl, ?_⟩
          · rw [← e1]
            show ∀ p ∈ (_, _) :: (_, _) :: (_, _) :: (_, _) :: clB x t F i j ci cj fi, _
            unfold clB
            walk_at "fa"
          · rw [A.lt_of_lcp, if_neg (by rw [List.length_reverse]; omega), if_pos (by lia)]
            rfl
        · rw [show ((F.cu : Int) - ((c0 + q : Nat) : Int) == F.lb) = false from by rw [beq_eq_false_iff_ne]; lia]
          refine ifN (by decide) ?_
          walk_at "w"
          have hlt : c0 + q < F.cu - F.lb := by lia
          have hq2 : q < m.s.length - c0 := hq
          refine EV.item ?_
          walk_at "w"
          refine ⟨by lia, ?_⟩
          walk_at "w"
          refine ⟨by lia, by lia, ?_⟩
          walk_at "w"
          refine EV.item ?_
          refine EV.am_s hma ?_
          walk_at "w"
          refine ⟨rfl, _, rfl, by lia, ?_⟩
          walk_at "w"
          refine ⟨by lia, by lia, ?_⟩
          walk_at "w"
          have ga : F.cur.getD ((F.cu : Int) - 1 - ((c0 + q : Nat) : Int)).toNat 0 = (back F).getD (c0 + q) 0 := by rw [back_get wf hlb hlt]; congr 1; omega
          have gb : m.s.getD ((m.s.length : Int) - 1 - c0 + q * (-1)).toNat 0 = m.s.reverse.getD (c0 + q) 0 := by rw [rev_get _ (by lia)]; congr 1; omega
          rw [ga, gb]
          by_cases heq : c0 + q < A.lcp m.s.reverse (back F)
          · have e := A.get_eq_of_lt_lcp (back F) m.s.reverse _ heq
            rw [e, Int.sub_self]
            refine ifN (by decide) ?_
            walk_at "w"
            refine ⟨?_, rfl, rfl, rfl, by assumption⟩
            rw [show ((c0 + q : Nat) : Int) + 1 = ((c0 + (q + 1) : Nat) : Int) from by rfl]
            show ∀ p ∈ (_, _) :: (_, _) :: (_, _) :: (_, _) :: clB x t F i j ci cj fi, _
            unfold clB
            walk_at "fa"
          · have e1 : c0 + q = A.lcp m.s.reverse (back F) := by lia
            have ne := A.get_ne_of_lcp (back F) m.s.reverse (by rw [← e1, List.length_reverse]; lia) (by rw [← e1]; lia)
            rw [← e1] at ne
            refine ifP (by rw [bne_iff_ne]; lia) ?_
            walk_at "w"
            refine ⟨rfl, (((back F).getD (c0 + q) 0 : Nat) : Int) - ((m.s.reverse.getD (c0 + q) 0 : Nat) : Int), ?_, rfl, rfl, rfl, ?_⟩
            · rw [← e1]
              show ∀ p ∈ (_, _) :: (_, _) :: (_, _) :: (_, _) :: clB x t F i j ci cj fi, _
              unfold clB
              walk_at "fa"
            · rw [A.lt_of_lcp, if_neg (by rw [List.length_reverse]; lia), if_neg (by lia), ← e1]
              exact decide_eq_decide.mpr (by lia)
      · -- to the end
        obtain ⟨g1, g2, g3, g4, g5⟩ := hJ
        have e1 : c0 + (m.s.length - c0) = A.lcp m.s.reverse (back F) := by lia
        refine ⟨rfl, 0, e1 ▸ g1, g2, g3, g4, ?_⟩
        rw [A.lt_of_lcp, if_pos (by rw [List.length_reverse]; lia)]
        rfl
    · intro σ' hP
      obtain ⟨loc2, ob2, fl2, ml2⟩ := σ'
      obtain ⟨d, g1, rfl, rfl, rfl, g5⟩ := hP
      dsimp only at g1
      refine weak ?_ g1
      show EX W F_find_among_b _ ⟨("w", _) :: ("common", _) :: ("diff", _) :: ("k", _) :: clB x t F i j ci cj fi, _, _, _⟩ _
      unfold clB
      walk_at "w"
      rw [g5]
      cases hlt : A.lt (back F) m.s.reverse
      · refine ifN (by decide) ?_
        have S1 : A.lt (back F) ((fun i => (T.getD i dAm).s.reverse) kk) = false := by dsimp only; rw [hkey]; exact hlt
        have S2 : A.lcp m.s.reverse (back F) = A.lcp ((fun i => (T.getD i dAm).s.reverse) kk) (back F) := by dsimp only; rw [hkey]
        walk_at "w"
        by_cases hle : j ≤ kk + 1
        · refine ifP (by rw [decide_eq_true_iff]; lia) ?_
          walk_at "w"
          have hE : A.Ends (fun i => (T.getD i dAm).s.reverse) T.length (back F) kk (A.lcp m.s.reverse (back F)) := ⟨hkT, .inr ⟨S1, S2, fun hn => by
            rcases S.hi with ⟨e, _⟩ | ⟨_, e, _⟩
            · lia
            · rw [show kk + 1 = j by lia]; exact e⟩⟩
          by_cases hk0 : 0 < kk
          · refine ifP (by rw [decide_eq_true_iff]; lia) ?_
            walk_at "w"
            refine ⟨rfl, kk, _, ?_, rfl, rfl, rfl, hE⟩
            unfold clE
            walk_at "fa"
          · obtain rfl : fi = true := by cases fi with | true => rfl | false => exact absurd (h2 rfl) (by lia)
            refine ifN (by rw [decide_eq_true_iff]; lia) ?_
            walk_at "w"
            refine ifN (by rw [beq_iff_eq]; lia) ?_
            walk_at "w"
            refine ifP rfl ?_
            walk_at "w"
            refine ⟨rfl, kk, _, ?_, rfl, rfl, rfl, hE⟩
            unfold clE
            walk_at "fa"
        · refine ifN (by rw [decide_eq_true_iff]; lia) ?_
          walk_at "w"
          obtain rfl : fi = false := by
            cases fi with
            | false => rfl
            | true => have := h1 rfl; lia
          refine ⟨2 * (j - kk) + 1, by simp only [Bool.false_eq_true, if_false]; lia, kk, j, _, cj, false, ?_, rfl, rfl, rfl, ⟨kj, jn, .inr ⟨S1, S2⟩, S.hi⟩, (fun q => nomatch q), (fun _ => by exact Nat.not_le.mp ‹_›), rfl⟩
          unfold clB
          dsimp only
          walk_at "fa"
      · refine ifP rfl ?_
        have S1 : A.lt (back F) ((fun i => (T.getD i dAm).s.reverse) kk) = true := by dsimp only; rw [hkey]; exact hlt
        have S2 : A.lcp m.s.reverse (back F) = A.lcp ((fun i => (T.getD i dAm).s.reverse) kk) (back F) := by dsimp only; rw [hkey]
        walk_at "w"
        by_cases hle : kk ≤ i + 1
        · refine ifP (by rw [decide_eq_true_iff]; lia) ?_
          walk_at "w"
          by_cases hi0 : 0 < i
          · refine ifP (by rw [decide_eq_true_iff]; lia) ?_
            walk_at "w"
            have hE : A.Ends (fun i => (T.getD i dAm).s.reverse) T.length (back F) i ci := by
              refine ⟨by exact Nat.lt_of_lt_of_le ‹_› ‹_›, .inr ?_⟩
              rcases S.lo with ⟨e, _⟩ | ⟨e, e'⟩
              · lia
              · refine ⟨e, e', fun _ => ?_⟩
                cases fi with
                | true => have := h1 rfl; lia
                | false =>
                  have := h2 rfl
                  rw [show i + 1 = kk by lia]
                  exact S1
            refine ⟨rfl, i, _, ?_, rfl, rfl, rfl, hE⟩
            unfold clE
            walk_at "fa"
          · refine ifN (by rw [decide_eq_true_iff]; lia) ?_
            walk_at "w"
            have i0 : i = 0 := by lia
            by_cases hk0 : kk = 0
            · refine ifP (by rw [beq_iff_eq]; lia) ?_
              walk_at "w"
              have hE : A.Ends (fun i => (T.getD i dAm).s.reverse) T.length (back F) i ci := by
                refine ⟨by exact Nat.lt_of_lt_of_le ‹_› ‹_›, .inl ⟨i0, ?_, hk0 ▸ S1⟩⟩
                rcases S.lo with ⟨_, e⟩ | ⟨e, _⟩
                · exact e
                · rw [i0, ← hk0, S1] at e
                  cases e
              refine ⟨rfl, i, _, ?_, rfl, rfl, rfl, hE⟩
              unfold clE
              walk_at "fa"
            · refine ifN (by rw [beq_iff_eq]; lia) ?_
              walk_at "w"
              obtain rfl : fi = false := by
                cases fi with
                | false => rfl
                | true => have := h1 rfl; lia
              refine ifN (by decide) ?_
              walk_at "w"
              refine ⟨2 * (kk - i), by simp only [Bool.false_eq_true, if_false]; lia, i, kk, ci, _, true, ?_, rfl, rfl, rfl, ⟨by lia, by exact Nat.le_of_lt ‹_›, S.lo, .inr ⟨hkT, S1, S2⟩⟩, (fun _ => by lia), (fun q => nomatch q), rfl⟩
              unfold clB
              dsimp only
              walk_at "fa"
        · refine ifN (by rw [decide_eq_true_iff]; lia) ?_
          walk_at "w"
          obtain rfl : fi = false := by
            cases fi with
            | false => rfl
            | true => have := h1 rfl; lia
          refine ⟨2 * (kk - i) + 1, by simp only [Bool.false_eq_true, if_false]; lia, i, kk, ci, _, false, ?_, rfl, rfl, rfl, ⟨by lia, by exact Nat.le_of_lt ‹_›, S.lo, .inr ⟨hkT, S1, S2⟩⟩, (fun q => nomatch q), (fun _ => by exact Nat.not_le.mp ‹_›), rfl⟩
          unfold clB
          dsimp only
          walk_at "fa"
  · -- at the start
    unfold clB
    rw [show ((0 : Nat) : Int) = 0 from rfl]
    walk_at "fa"
  · -- the second loop
    intro σ' hP
    obtain ⟨loc2, ob2, fl2, ml2⟩ := σ'
    obtain ⟨i0, ci, g1, rfl, rfl, rfl, hE⟩ := hP
    dsimp only at g1
    walk_at "w"
    let Pq5 : Nat → St → Prop := fun nn σ => ∃ i' : Nat, (∀ p ∈ clE x t F i' ci, σ.loc.lookup p.1 = some p.2) ∧ σ.ob = some (x, dx) ∧ σ.fl = FL F ∧ σ.ml = none ∧
      A.Chn (fun i => (T.getD i dAm).s.reverse) T.length (back F) i0 ci i' ∧ nn = (T.getD i' dAm).s.length
    refine EX1.while_ Pq5 (fun nn σ hJ => ?_) _ ⟨i0, g1, rfl, rfl, rfl, A.Chn.start tb hE, rfl⟩
    obtain ⟨loc3, ob3, fl3, ml3⟩ := σ
    obtain ⟨i', g2, rfl, rfl, rfl, C, rfl⟩ := hJ
    dsimp only at g2
    refine TR.true_ ?_
    rw [if_pos rfl]
    refine weak ?_ g2
    show EX W F_find_among_b _ (Sm x dx F (clE x t F i' ci)) _
    unfold clE
    have hkT := C.2.1
    obtain ⟨m, hmm⟩ : ∃ m, m = T.getD i' dAm := ⟨_, rfl⟩
    have hma : amOk W.K m = true := by
      have := List.all_eq_true.mp hm m
      apply this
      rw [hmm, List.getD_eq_getElem?_getD, List.getElem?_eq_getElem hkT]
      exact List.getElem_mem hkT
    have hms : m.s.length ≤ 500 := hmm ▸ hs i'
    walk_at "w"
    refine EV.tabitem hl hz ?_
    walk_at "w"
    refine ⟨rfl, ?_⟩
    walk_at "w"
    refine ⟨hkT, _, rfl, ?_⟩
    rw [← hmm]
    walk_at "w"
    refine EV.am_s hma ?_
    walk_at "w"
    refine ⟨rfl, .int m.s.length, len_strA (by lia), ?_⟩
    walk_at "w"
    have hK : ((fun i => (T.getD i dAm).s.reverse) i').length = m.s.length := by dsimp only; rw [hmm, List.length_reverse]
    by_cases hh : m.s.length ≤ ci
    · refine ifP (by rw [decide_eq_true_iff]; lia) ?_
      have B := C.hit (by rw [hK]; exact hh)
      have hp := A.pre_len B.2.1
      rw [hK, back_len wf hlb] at hp
      walk_at "w"
      refine EV.am_s hma ?_
      walk_at "w"
      refine ⟨rfl, .int m.s.length, len_strA (by lia), ?_⟩
      walk_at "w"
      refine ⟨F.cu - m.s.length, _, by congr 1; lia, rfl, ?_⟩
      walk_at "w"
      refine EV.am_res hma ?_
      walk_at "w"
      refine ⟨rfl, _, .inl rfl, rfl, ?_⟩
      have := h _ B
      dsimp only at this
      rw [← hmm] at this
      exact this
    · refine ifN (by rw [decide_eq_true_iff]; lia) ?_
      walk_at "w"
      refine EV.am_sub hma ?_
      walk_at "w"
      refine ⟨rfl, _, rfl, ?_⟩
      walk_at "w"
      have ms := C.miss tb (by rw [hK]; exact hh)
      rw [← hmm] at ms
      rcases ms with ⟨e, B⟩ | ⟨j, e, l, C'⟩
      · refine ifP (by rw [e]; rfl) ?_
        walk_at "w"
        exact ⟨_, .inl rfl, rfl, h _ B⟩
      · refine ifN (by rw [e, decide_eq_true_iff]; lia) ?_
        walk_at "w"
        rw [List.length_reverse, List.length_reverse] at l
        refine ⟨_, l, j, ?_, rfl, rfl, rfl, C', rfl⟩
        rw [e]
        unfold clE
        dsimp only
        walk_at "fa"
end
noncomputable section
open PySem PySem.W PySem.Calls PyProof.Rows Builtin
open H (Sets fEnd KF kf_in QV looseV PW)
theorem size_up (a b : Int) : Builtin.Range.rangeSize a b 1 = if a < b then b - a else 0 := by
  unfold Builtin.Range.rangeSize
  simp only [show ((1 : Int) > 0) from by decide, if_true]
  by_cases h : a < b
  · rw [if_pos h, if_pos (show b > a from h), Int.ediv_one]; lia
  · rw [if_neg h, if_neg (show ¬ b > a from h)]
theorem ms_find_among : MS F_find_among := ⟨by kernel_rfl, by kernel_rfl⟩
noncomputable def fwd (F : Fd) : List Nat := (F.cur.take F.li).drop F.cu
theorem fwd_len {F : Fd} (wf : Wf F) : (fwd F).length = F.li - F.cu := by
  have := wf.c; have := wf.l
  unfold fwd
  simp only [List.length_drop, List.length_take]
  lia
theorem fwd_get {F : Fd} (wf : Wf F) {m : Nat} (hm : m < F.li - F.cu) : (fwd F).getD m 0 = F.cur.getD (F.cu + m) 0 := by
  have w1 := wf.c; have w2 := wf.l
  unfold fwd
  rw [List.getD_eq_getElem?_getD, List.getD_eq_getElem?_getD, List.getElem?_drop, List.getElem?_take, if_pos (by omega)]
noncomputable def clF (x t : Addr) (F : Fd) (i j ci cj : Nat) (fi : Bool) : List (Str × AV) := [("i", .int i), ("j", .int j), ("common_i", .int ci), ("common_j", .int cj), ("first_key_inspected", .bool fi), ("c", .int F.cu), ("l", .int F.li), ("self", .val (.ref x)), ("v", .val (.ref t))]
set_option maxHeartbeats 1000000 in
theorem find_f {W : Wx} {x dx t : Addr} {T : List Am} {F : Fd} {Q : AV → List (Str × AV) → Prop} (hl : listOk W.K t T) (hm : T.all (amOk W.K) = true) (hz : T.length ≤ 1000) (wf : Wf F)
    (tb : A.Tab (fun i => (T.getD i dAm).s) (fun i => (T.getD i dAm).sub) T.length) (hs : ∀ i, (T.getD i dAm).s.length ≤ 500)
    (h : ∀ r, A.Best (fun i => (T.getD i dAm).s) T.length (fwd F) r → match r with
      | some i => Q (.int (T.getD i dAm).res) (FL { F with cu := F.cu + (T.getD i dAm).s.length })
      | none => Q (.int 0) (FL F)) : CallOK W 133 0 [.val (.ref x), .val (.ref t)] (some (x, dx)) (FL F) Q := by
  have M := ms_find_among
  refine call_find_among rfl ?_
  refine EX.cons ?_
  show EX1 W F_find_among _ (Sm x dx F [("self", .val (.ref x)), ("v", .val (.ref t))]) _
  walk_at "w"
  refine ⟨_, len_tab hl hz, _, rfl, ?_⟩
  walk_at "w"
  let Pq1 : St → Prop := fun σ => ∃ i ci : Nat, (∀ p ∈ clE x t F i ci, σ.loc.lookup p.1 = some p.2) ∧ σ.ob = some (x, dx) ∧ σ.fl = FL F ∧ σ.ml = none ∧ A.Ends (fun i => (T.getD i dAm).s) T.length (fwd F) i ci
  refine EX1.cut Pq1 ?_ ?_
  let Pq2 : Nat → St → Prop := fun nn σ => ∃ i j ci cj : Nat, ∃ fi : Bool, (∀ p ∈ clF x t F i j ci cj fi, σ.loc.lookup p.1 = some p.2) ∧ σ.ob = some (x, dx) ∧ σ.fl = FL F ∧ σ.ml = none ∧
    A.Srch (fun i => (T.getD i dAm).s) T.length (fwd F) i j ci cj ∧ (fi = true → i = 0 ∧ j = 1) ∧ (fi = false → i + 2 ≤ j) ∧ nn = 2 * (j - i) + (if fi then 0 else 1)
  refine EX1.while_ Pq2 (fun nn σ hJ => ?_) (2 * T.length + 1) ⟨0, T.length, 0, 0, false, ?_, rfl, rfl, rfl, A.Srch.start tb, (fun q => by cases q), (fun _ => by have := tb.two; omega), (by simp)⟩
  · obtain ⟨loc, ob, fl, ml⟩ := σ
    obtain ⟨i, j, ci, cj, fi, hloc, rfl, rfl, rfl, S, h1, h2, rfl⟩ := hJ
    dsimp only at hloc
    refine TR.true_ ?_
    rw [if_pos rfl]
    refine weak ?_ hloc
    unfold clF
    walk_at "w"
    have n2 := tb.two
    obtain ⟨kk, hkk⟩ : ∃ kk : Nat, kk = i + (j - i) / 2 := ⟨_, rfl⟩
    have ij := S.ij
    have jn := S.jn
    have ik : i ≤ kk := by lia
    have kj : kk < j := by lia
    have ek : (i : Int) + ((j : Int) - i).fdiv (2 ^ Int.toNat 1) = kk := by
      rw [show (2 ^ Int.toNat 1 : Int) = 2 from rfl, Int.fdiv_eq_ediv_of_nonneg _ (by lia)]
      omega
    rw [ek]
    have hshare := S.share tb ik kj
    obtain ⟨c0, hc0⟩ : ∃ c0 : Nat, c0 = min ci cj := ⟨_, rfl⟩
    have ec : min (ci : Int) cj = c0 := by omega
    obtain ⟨m, hmm⟩ : ∃ m, m = T.getD kk dAm := ⟨_, rfl⟩
    have hkT : kk < T.length := by exact Nat.lt_of_lt_of_le ‹_› ‹_›
    have hma : amOk W.K m = true := by
      have := List.all_eq_true.mp hm m
      apply this
      rw [hmm, List.getD_eq_getElem?_getD, List.getElem?_eq_getElem hkT]
      exact List.getElem_mem hkT
    have hms : m.s.length ≤ 500 := hmm ▸ hs kk
    rw [ec]
    refine EV.tabitem hl hz ?_
    walk_at "w"
    refine ⟨rfl, ?_⟩
    walk_at "w"
    refine ⟨hkT, _, rfl, ?_⟩
    rw [← hmm]
    walk_at "w"
    have w1 := wf.c
    have w2 := wf.l
    have w3 := wf.z
    have hbl := fwd_len wf
    have hkey : (fun i => (T.getD i dAm).s) kk = m.s := by rw [hmm]
    dsimp only at hkey
    have hsh : c0 ≤ A.lcp m.s (fwd F) := by rw [← hkey, hc0]; exact hshare
    have hl1 := A.lcp_le_l m.s (fwd F)
    have hl2 := A.lcp_le_r m.s (fwd F)
    skip
    let cl2 : Nat → Int → List (Str × AV) := fun cc d => ("w", .val (.ref m.a)) :: ("common", .int (cc : Nat)) :: ("diff", .int d) :: ("k", .int (kk : Nat)) :: clF x t F i j ci cj fi
    let Pq3 : St → Prop := fun σ' => ∃ d : Int, (∀ p ∈ cl2 (A.lcp m.s (fwd F)) d, σ'.loc.lookup p.1 = some p.2) ∧ σ'.ob = some (x, dx) ∧ σ'.fl = FL F ∧ σ'.ml = none ∧ decide (d < 0) = A.lt (fwd F) m.s
    refine EX1.cut Pq3 ?_ ?_
    · let Pq4 : Nat → St → Prop := fun q σ => (∀ p ∈ cl2 (c0 + q) 0, σ.loc.lookup p.1 = some p.2) ∧ σ.ob = some (x, dx) ∧ σ.fl = FL F ∧ σ.ml = none ∧ c0 + q ≤ A.lcp m.s (fwd F)
      refine EX1.for_ (n := m.s.length - c0) (vals := fun q => .int ((c0 : Int) + q * 1)) Pq4
        (IT.range (c0 : Int) m.s.length 1 ?_ (small_up (by lia) (by lia) (by lia) (by lia)) (.inl rfl) (by rw [size_up]; split <;> lia) (fun _ _ => rfl) (by kernel_rfl) (by kernel_rfl)) (fun q σ hq hJ => ?_) (fun σ hJ => ?_) (by kernel_rfl)
      · -- the range
        walk_at "w"
        refine EV.am_s hma ?_
        walk_at "w"
        refine ⟨rfl, .int m.s.length, len_strA (by lia), ?_⟩
        walk_at "w"
        refine ⟨.inr (.inl ⟨rfl, rfl⟩), ?_, rfl, rfl, rfl, by simpa using hsh⟩
        show ∀ p ∈ (_, _) :: (_, _) :: (_, _) :: (_, _) :: clF x t F i j ci cj fi, _
        unfold clF
        rw [Nat.add_zero]
        walk_at "fa"
      · -- a turn
        obtain ⟨loc2, ob2, fl2, ml2⟩ := σ
        obtain ⟨g1, rfl, rfl, rfl, g5⟩ := hJ
        dsimp only at g1
        refine ⟨fun _ z => (nomatch z), weak (l := ("i2", .int ((c0 : Int) + q * 1)) :: cl2 (c0 + q) 0) ?_ (fa_cons lk_here (fa_push g1 (by kernel_rfl)))⟩
        show EX W F_find_among _ ⟨("i2", _) :: ("w", _) :: ("common", _) :: ("diff", _) :: ("k", _) :: clF x t F i j ci cj fi, _, _, _⟩ _
        unfold clF
        walk_at "w"
        by_cases hend : c0 + q = F.li - F.cu
        · -- the text is at its end
          have e1 : c0 + q = A.lcp m.s (fwd F) := by lia
          rw [show ((F.cu : Int) + ((c0 + q : Nat) : Int) == F.li) = true from by rw [beq_iff_eq]; lia]
          refine ifP rfl ?_
          walk_at "w"
          refine ⟨rfl, -1, ?_, rfl, rfl, rfl, ?_⟩
          · rw [← e1]
            show ∀ p ∈ (_, _) :: (_, _) :: (_, _) :: (_, _) :: clF x t F i j ci cj fi, _
            unfold clF
            walk_at "fa"
          · rw [A.lt_of_lcp, if_neg (by omega), if_pos (by lia)]
            rfl
        · rw [show ((F.cu : Int) + ((c0 + q : Nat) : Int) == F.li) = false from by rw [beq_eq_false_iff_ne]; lia]
          refine ifN (by decide) ?_
          walk_at "w"
          have hlt : c0 + q < F.li - F.cu := by lia
          have hq2 : q < m.s.length - c0 := hq
          refine EV.item ?_
          walk_at "w"
          refine ⟨by lia, ?_⟩
          walk_at "w"
          refine ⟨by lia, by lia, ?_⟩
          walk_at "w"
          refine EV.item ?_
          refine EV.am_s hma ?_
          walk_at "w"
          refine ⟨rfl, _, rfl, by lia, ?_⟩
          walk_at "w"
          refine ⟨by lia, by lia, ?_⟩
          walk_at "w"
          have ga : F.cur.getD ((F.cu : Int) + ((c0 + q : Nat) : Int)).toNat 0 = (fwd F).getD (c0 + q) 0 := by rw [fwd_get wf hlt]; congr 1
          have gb : m.s.getD ((c0 : Int) + q * 1).toNat 0 = m.s.getD (c0 + q) 0 := by congr 1; lia
          rw [ga, gb]
          by_cases heq : c0 + q < A.lcp m.s (fwd F)
          · have e := A.get_eq_of_lt_lcp (fwd F) m.s _ heq
            rw [e, Int.sub_self]
            refine ifN (by decide) ?_
            walk_at "w"
            refine ⟨?_, rfl, rfl, rfl, by assumption⟩
            rw [show ((c0 + q : Nat) : Int) + 1 = ((c0 + (q + 1) : Nat) : Int) from by rfl]
            show ∀ p ∈ (_, _) :: (_, _) :: (_, _) :: (_, _) :: clF x t F i j ci cj fi, _
            unfold clF
            walk_at "fa"
          · have e1 : c0 + q = A.lcp m.s (fwd F) := by lia
            have ne := A.get_ne_of_lcp (fwd F) m.s (by rw [← e1]; lia) (by rw [← e1]; lia)
            rw [← e1] at ne
            refine ifP (by rw [bne_iff_ne]; lia) ?_
            walk_at "w"
            refine ⟨rfl, (((fwd F).getD (c0 + q) 0 : Nat) : Int) - ((m.s.getD (c0 + q) 0 : Nat) : Int), ?_, rfl, rfl, rfl, ?_⟩
            · rw [← e1]
              show ∀ p ∈ (_, _) :: (_, _) :: (_, _) :: (_, _) :: clF x t F i j ci cj fi, _
              unfold clF
              walk_at "fa"
            · rw [A.lt_of_lcp, if_neg (by lia), if_neg (by lia), ← e1]
              exact decide_eq_decide.mpr (by omega)
      · -- to the end
        obtain ⟨g1, g2, g3, g4, g5⟩ := hJ
        have e1 : c0 + (m.s.length - c0) = A.lcp m.s (fwd F) := by lia
        refine ⟨rfl, 0, e1 ▸ g1, g2, g3, g4, ?_⟩
        rw [A.lt_of_lcp, if_pos (by lia)]
        rfl
    · intro σ' hP
      obtain ⟨loc2, ob2, fl2, ml2⟩ := σ'
      obtain ⟨d, g1, rfl, rfl, rfl, g5⟩ := hP
      dsimp only at g1
      refine weak ?_ g1
      show EX W F_find_among _ ⟨("w", _) :: ("common", _) :: ("diff", _) :: ("k", _) :: clF x t F i j ci cj fi, _, _, _⟩ _
      unfold clF
      walk_at "w"
      rw [g5]
      cases hlt : A.lt (fwd F) m.s
      · refine ifN (by decide) ?_
        have S1 : A.lt (fwd F) ((fun i => (T.getD i dAm).s) kk) = false := by dsimp only; rw [hkey]; exact hlt
        have S2 : A.lcp m.s (fwd F) = A.lcp ((fun i => (T.getD i dAm).s) kk) (fwd F) := by dsimp only; rw [hkey]
        walk_at "w"
        by_cases hle : j ≤ kk + 1
        · refine ifP (by rw [decide_eq_true_iff]; lia) ?_
          walk_at "w"
          have hE : A.Ends (fun i => (T.getD i dAm).s) T.length (fwd F) kk (A.lcp m.s (fwd F)) := ⟨hkT, .inr ⟨S1, S2, fun hn => by
            rcases S.hi with ⟨e, _⟩ | ⟨_, e, _⟩
            · lia
            · rw [show kk + 1 = j by lia]; exact e⟩⟩
          by_cases hk0 : 0 < kk
          · refine ifP (by rw [decide_eq_true_iff]; lia) ?_
            walk_at "w"
            refine ⟨rfl, kk, _, ?_, rfl, rfl, rfl, hE⟩
            unfold clE
            walk_at "fa"
          · obtain rfl : fi = true := by cases fi with | true => rfl | false => exact absurd (h2 rfl) (by lia)
            refine ifN (by rw [decide_eq_true_iff]; lia) ?_
            walk_at "w"
            refine ifN (by rw [beq_iff_eq]; lia) ?_
            walk_at "w"
            refine ifP rfl ?_
            walk_at "w"
            refine ⟨rfl, kk, _, ?_, rfl, rfl, rfl, hE⟩
            unfold clE
            walk_at "fa"
        · refine ifN (by rw [decide_eq_true_iff]; lia) ?_
          walk_at "w"
          obtain rfl : fi = false := by
            cases fi with
            | false => rfl
            | true => have := h1 rfl; lia
          refine ⟨2 * (j - kk) + 1, by simp only [Bool.false_eq_true, if_false]; lia, kk, j, _, cj, false, ?_, rfl, rfl, rfl, ⟨kj, jn, .inr ⟨S1, S2⟩, S.hi⟩, (fun q => nomatch q), (fun _ => by exact Nat.not_le.mp ‹_›), rfl⟩
          unfold clF
          dsimp only
          walk_at "fa"
      · refine ifP rfl ?_
        have S1 : A.lt (fwd F) ((fun i => (T.getD i dAm).s) kk) = true := by dsimp only; rw [hkey]; exact hlt
        have S2 : A.lcp m.s (fwd F) = A.lcp ((fun i => (T.getD i dAm).s) kk) (fwd F) := by dsimp only; rw [hkey]
        walk_at "w"
        by_cases hle : kk ≤ i + 1
        · refine ifP (by rw [decide_eq_true_iff]; lia) ?_
          walk_at "w"
          by_cases hi0 : 0 < i
          · refine ifP (by rw [decide_eq_true_iff]; lia) ?_
            walk_at "w"
            have hE : A.Ends (fun i => (T.getD i dAm).s) T.length (fwd F) i ci := by
              refine ⟨by exact Nat.lt_of_lt_of_le ‹_› ‹_›, .inr ?_⟩
              rcases S.lo with ⟨e, _⟩ | ⟨e, e'⟩
              · lia
              · refine ⟨e, e', fun _ => ?_⟩
                cases fi with
                | true => have := h1 rfl; lia
                | false =>
                  have := h2 rfl
                  rw [show i + 1 = kk by lia]
                  exact S1
            refine ⟨rfl, i, _, ?_, rfl, rfl, rfl, hE⟩
            unfold clE
            walk_at "fa"
          · refine ifN (by rw [decide_eq_true_iff]; lia) ?_
            walk_at "w"
            have i0 : i = 0 := by lia
            by_cases hk0 : kk = 0
            · refine ifP (by rw [beq_iff_eq]; lia) ?_
              walk_at "w"
              have hE : A.Ends (fun i => (T.getD i dAm).s) T.length (fwd F) i ci := by
                refine ⟨by exact Nat.lt_of_lt_of_le ‹_› ‹_›, .inl ⟨i0, ?_, hk0 ▸ S1⟩⟩
                rcases S.lo with ⟨_, e⟩ | ⟨e, _⟩
                · exact e
                · rw [i0, ← hk0, S1] at e
                  cases e
              refine ⟨rfl, i, _, ?_, rfl, rfl, rfl, hE⟩
              unfold clE
              walk_at "fa"
            · refine ifN (by rw [beq_iff_eq]; lia) ?_
              walk_at "w"
              obtain rfl : fi = false := by
                cases fi with
                | false => rfl
                | true => have := h1 rfl; lia
              refine ifN (by decide) ?_
              walk_at "w"
              refine ⟨2 * (kk - i), by simp only [Bool.false_eq_true, if_false]; lia, i, kk, ci, _, true, ?_, rfl, rfl, rfl, ⟨by lia, by exact Nat.le_of_lt ‹_›, S.lo, .inr ⟨hkT, S1, S2⟩⟩, (fun _ => by lia), (fun q => nomatch q), rfl⟩
              unfold clF
              dsimp only
              walk_at "fa"
        · refine ifN (by rw [decide_eq_true_iff]; lia) ?_
          walk_at "w"
          obtain rfl : fi = false := by
            cases fi with
            | false => rfl
            | true => have := h1 rfl; lia
          refine ⟨2 * (kk - i) + 1, by simp only [Bool.false_eq_true, if_false]; lia, i, kk, ci, _, false, ?_, rfl, rfl, rfl, ⟨by lia, by exact Nat.le_of_lt ‹_›, S.lo, .inr ⟨hkT, S1, S2⟩⟩, (fun q => nomatch q), (fun _ => by exact Nat.not_le.mp ‹_›), rfl⟩
          unfold clF
          dsimp only
          walk_at "fa"
  · -- at the start
    unfold clF
    rw [show ((0 : Nat) : Int) = 0 from rfl]
    walk_at "fa"
  · -- the second loop
    intro σ' hP
    obtain ⟨loc2, ob2, fl2, ml2⟩ := σ'
    obtain ⟨i0, ci, g1, rfl, rfl, rfl, hE⟩ := hP
    dsimp only at g1
    walk_at "w"
    let Pq5 : Nat → St → Prop := fun nn σ => ∃ i' : Nat, (∀ p ∈ clE x t F i' ci, σ.loc.lookup p.1 = some p.2) ∧ σ.ob = some (x, dx) ∧ σ.fl = FL F ∧ σ.ml = none ∧
      A.Chn (fun i => (T.getD i dAm).s) T.length (fwd F) i0 ci i' ∧ nn = (T.getD i' dAm).s.length
    refine EX1.while_ Pq5 (fun nn σ hJ => ?_) _ ⟨i0, g1, rfl, rfl, rfl, A.Chn.start tb hE, rfl⟩
    obtain ⟨loc3, ob3, fl3, ml3⟩ := σ
    obtain ⟨i', g2, rfl, rfl, rfl, C, rfl⟩ := hJ
    dsimp only at g2
    refine TR.true_ ?_
    rw [if_pos rfl]
    refine weak ?_ g2
    show EX W F_find_among _ (Sm x dx F (clE x t F i' ci)) _
    unfold clE
    have hkT := C.2.1
    obtain ⟨m, hmm⟩ : ∃ m, m = T.getD i' dAm := ⟨_, rfl⟩
    have hma : amOk W.K m = true := by
      have := List.all_eq_true.mp hm m
      apply this
      rw [hmm, List.getD_eq_getElem?_getD, List.getElem?_eq_getElem hkT]
      exact List.getElem_mem hkT
    have hms : m.s.length ≤ 500 := hmm ▸ hs i'
    walk_at "w"
    refine EV.tabitem hl hz ?_
    walk_at "w"
    refine ⟨rfl, ?_⟩
    walk_at "w"
    refine ⟨hkT, _, rfl, ?_⟩
    rw [← hmm]
    walk_at "w"
    refine EV.am_s hma ?_
    walk_at "w"
    refine ⟨rfl, .int m.s.length, len_strA (by lia), ?_⟩
    walk_at "w"
    have hK : ((fun i => (T.getD i dAm).s) i').length = m.s.length := by dsimp only; rw [hmm]
    by_cases hh : m.s.length ≤ ci
    · refine ifP (by rw [decide_eq_true_iff]; lia) ?_
      have B := C.hit (by rw [hK]; exact hh)
      have hp := A.pre_len B.2.1
      rw [hK, fwd_len wf] at hp
      walk_at "w"
      refine EV.am_s hma ?_
      walk_at "w"
      refine ⟨rfl, .int m.s.length, len_strA (by lia), ?_⟩
      walk_at "w"
      refine EV.am_res hma ?_
      walk_at "w"
      refine ⟨rfl, _, .inl rfl, rfl, ?_⟩
      have := h _ B
      dsimp only at this
      rw [← hmm] at this
      exact this
    · refine ifN (by rw [decide_eq_true_iff]; lia) ?_
      walk_at "w"
      refine EV.am_sub hma ?_
      walk_at "w"
      refine ⟨rfl, _, rfl, ?_⟩
      walk_at "w"
      have ms := C.miss tb (by rw [hK]; exact hh)
      rw [← hmm] at ms
      rcases ms with ⟨e, B⟩ | ⟨j, e, l, C'⟩
      · refine ifP (by rw [e]; rfl) ?_
        walk_at "w"
        exact ⟨_, .inl rfl, rfl, h _ B⟩
      · refine ifN (by rw [e, decide_eq_true_iff]; lia) ?_
        walk_at "w"
        refine ⟨_, l, j, ?_, rfl, rfl, rfl, C', rfl⟩
        rw [e]
        unfold clE
        dsimp only
        walk_at "fa"
end
noncomputable section
open PySem PySem.W PySem.Calls PyProof.Rows Builtin
open H (Sets fEnd KF kf_in QV looseV PW)

noncomputable def plS {n : Str} {np : Pos} : Env → Sem Bool := fun env => (do return (← importBound (.Name n np) env).getD true)
theorem slA_take (l : List Nat) (b : Nat) (h : b ≤ l.length) : slA l (some 0) (some (b : Int)) = l.take b := by
  unfold slA clip
  simp only [Option.elim]
  rw [if_neg (by lia), if_neg (by lia)]
  rw [show (max 0 (min 0 (l.length : Int))).toNat = 0 from by rfl, show (max 0 (min (b : Int) (l.length : Int))).toNat = b from by omega]
  rfl
theorem slA_drop (l : List Nat) (b : Nat) (h : b ≤ l.length) : slA l (some (b : Int)) none = l.drop b := by
  unfold slA clip
  simp only [Option.elim]
  rw [if_neg (by omega)]
  rw [show (max 0 (min (b : Int) (l.length : Int))).toNat = b from by omega]
  exact List.take_of_length_le (by rw [List.length_drop]; lia)
theorem bin_str {a b : List Nat} (h : a.length + b.length ≤ 1000) : binA .Add (.str a) (.str b) = some (.str (a ++ b)) := if_pos h
noncomputable def repl (F : Fd) (b k : Nat) (s : List Nat) : Fd := { F with
  cur := F.cur.take b ++ s ++ F.cur.drop k
  li := F.li - (k - b) + s.length
  cu := if k ≤ F.cu then F.cu - (k - b) + s.length else if b < F.cu then b else F.cu }
theorem ms_replace_s : MS F_replace_s := ⟨by kernel_rfl, by kernel_rfl⟩
theorem replace_s {W : Wx} {x dx : Addr} {F : Fd} {s : List Nat} {b k : Nat} {Q : AV → List (Str × AV) → Prop} (wf : Wf F) (hb : b ≤ k) (hk : k ≤ F.li) (hs : s.length ≤ 200)
    (h : Q (.int ((s.length : Int) - ((k : Int) - b))) (FL (repl F b k s))) : CallOK W 147 0 [.val (.ref x), .int b, .int k, .str s] (some (x, dx)) (FL F) Q := by
  have M := ms_replace_s
  have w1 := wf.c
  have w2 := wf.l
  have w3 := wf.z
  refine call_replace_s rfl ?_
  refine EX.cons ?_
  show EX1 W F_replace_s _ (Sm x dx F [("self", .val (.ref x)), ("c_bra", .int b), ("c_ket", .int k), ("s", .str s)]) _
  walk_at "w"
  refine ⟨.int s.length, len_strA (by lia), ?_⟩
  walk_at "w"
  refine EX1.setF M (by l_ints) nf_current ?_
  walk_at "w"
  refine EV.slice_ss ?_ (by intro _ _ _; rfl) (by intro _ _ _; rfl)
  walk_at "w"
  refine ⟨by lia, ?_⟩
  walk_at "w"
  rw [slA_take _ _ (by lia)]
  refine ⟨_, bin_str (by rw [List.length_take]; lia), ?_⟩
  refine EV.slice_sn ?_ (by intro _ _ _; rfl) (by intro _ _ _; rfl)
  walk_at "w"
  refine ⟨by omega, ?_⟩
  walk_at "w"
  rw [slA_drop _ _ (by lia)]
  refine ⟨_, bin_str (by rw [List.length_append, List.length_take, List.length_drop]; lia), F, _, rfl, put_current _ _, ?_⟩
  walk_at "w"
  refine EX1.augF M (by l_ints) nf_limit (fl_limit _) rfl ?_
  walk_at "w"
  refine ⟨_, _, rfl, rfl, put_limit _ (F.li - (k - b) + s.length) (by lia), ?_⟩
  walk_at "w"
  have fin : ∀ fl, fl = FL (repl F b k s) → ∃ a, (AF.ret (AV.int ((s.length : Int) - ((k : Int) - b))) = AF.ret a ∨ AF.ret (AV.int ((s.length : Int) - ((k : Int) - b))) = AF.next ∧ a = AV.none) ∧ some (x, dx) = some (x, dx) ∧ Q a fl := by
    rintro fl rfl
    exact ⟨_, .inl rfl, rfl, h⟩
  by_cases hc : k ≤ F.cu
  · refine ifP (by rw [decide_eq_true_iff]; omega) ?_
    walk_at "w"
    refine EX1.augF M (by l_ints) nf_cursor (fl_cursor _) rfl ?_
    walk_at "w"
    refine ⟨_, _, rfl, rfl, put_cursor _ (F.cu - (k - b) + s.length) (by omega), ?_⟩
    walk_at "w"
    refine fin _ ?_
    unfold repl
    rw [if_pos hc]
  · refine ifN (by rw [decide_eq_true_iff]; omega) ?_
    walk_at "w"
    by_cases hc2 : b < F.cu
    · refine ifP (by rw [decide_eq_true_iff]; omega) ?_
      walk_at "w"
      refine fin _ ?_
      unfold repl
      rw [if_neg hc, if_pos hc2]
    · refine ifN (by rw [decide_eq_true_iff]; omega) ?_
      walk_at "w"
      refine fin _ ?_
      unfold repl
      rw [if_neg hc, if_neg hc2]
theorem ms_slice_from : MS F_slice_from := ⟨by kernel_rfl, by kernel_rfl⟩
theorem slice_from {W : Wx} {x dx : Addr} {F : Fd} {s : List Nat} {Q : AV → List (Str × AV) → Prop} (wf : Wf F) (hb : F.br ≤ F.ke) (hk : F.ke ≤ F.li) (hs : s.length ≤ 200)
    (h : Q .none (FL { repl F F.br F.ke s with ke := F.br + s.length })) : CallOK W 154 1 [.val (.ref x), .str s] (some (x, dx)) (FL F) Q := by
  have M := ms_slice_from
  have w1 := wf.c
  have w2 := wf.l
  have w3 := wf.z
  refine call_slice_from rfl ?_
  refine EX.cons ?_
  show EX1 W F_slice_from _ (Sm x dx F [("self", .val (.ref x)), ("s", .str s)]) _
  refine EX1.assert ?_
  walk_at "w"
  refine ⟨by rw [decide_eq_true_iff]; lia, ?_⟩
  walk_at "w"
  refine EX1.assert ?_
  walk_at "w"
  refine ⟨by rw [decide_eq_true_iff]; lia, ?_⟩
  walk_at "w"
  refine EX1.assert ?_
  walk_at "w"
  refine ⟨by rw [decide_eq_true_iff]; lia, ?_⟩
  walk_at "w"
  refine EX1.assert ?_
  walk_at "w"
  refine ⟨.int F.cur.length, len_strA (by lia), ?_⟩
  walk_at "w"
  refine ⟨by rw [decide_eq_true_iff]; lia, ?_⟩
  walk_at "w"
  refine EX1.expr (EV.meth (f := 147) (rm := 0) (EV.self M (by l_ints) ⟨_, _, rfl, rfl, rfl, ?_⟩) (by kernel_rfl) (by kernel_rfl) (by kernel_rfl) (by decide) plS (by intro env; with_unfolding_all rfl)) (by rfl) (by intro env; rfl)
  walk_at "w"
  refine replace_s wf hb hk hs ?_
  walk_at "w"
  refine ⟨.int s.length, len_strA (by lia), ?_⟩
  walk_at "w"
  exact ⟨_, .inr ⟨rfl, rfl⟩, rfl, h⟩
theorem ms_slice_del : MS F_slice_del := ⟨by kernel_rfl, by kernel_rfl⟩
section
variable {W : Wx} {fn : Fn} {x dx : Addr} {F : Fd} {loc : List (Str × AV)} {np p : Pos}
abbrev MthEq (np : Pos) (m : Str) (ap p : Pos) (es : List Expr) : Prop := ∀ env, eval (.Call (.Attribute (.Name "self" np) m ap) es [] p) env = (do
      let ov ← eval (.Name "self" np) env
      standAt ap.atName
      let (f, first) ← holding [ov] (getMethod ov m (plS (n := "self") (np := np) env))
      callWith p f first (backTo p (starEach es env)) (backToKw p (keywordEach [] env)))
theorem EV.slice_from {ap cp : Pos} {kd} {s : Str} {Q : AV → St → Prop} (M : MS fn) (hs : loc.lookup ("self" : Str) = some (.val (.ref x))) (wf : Wf F) (hb : F.br ≤ F.ke) (hk : F.ke ≤ F.li) (hz : s.cps.toList.length ≤ 200) (hrm : 1 < fn.rm) (he : MthEq np "slice_from" ap p [.Constant (.str s) kd cp])
    (h : Q .none (Sm x dx { repl F F.br F.ke s.cps.toList with ke := F.br + s.cps.toList.length } loc)) : EV W fn (.Call (.Attribute (.Name "self" np) "slice_from" ap) [.Constant (.str s) kd cp] [] p) (Sm x dx F loc) Q :=
  EV.meth (f := 154) (rm := 1) (EV.self M hs ⟨_, _, rfl, rfl, rfl, AR.cons (EV.cstr (AR.nil (Mine.slice_from wf hb hk hz h))) (by intro env; rfl)⟩) (by kernel_rfl) (by kernel_rfl) (by kernel_rfl) hrm plS he
end
theorem slice_del {W : Wx} {x dx : Addr} {F : Fd} {Q : AV → List (Str × AV) → Prop} (wf : Wf F) (hb : F.br ≤ F.ke) (hk : F.ke ≤ F.li)
    (h : Q .none (FL { repl F F.br F.ke [] with ke := F.br })) : CallOK W 161 2 [.val (.ref x)] (some (x, dx)) (FL F) Q := by
  have M := ms_slice_del
  refine call_slice_del rfl ?_
  refine EX.cons ?_
  show EX1 W F_slice_del _ (Sm x dx F [("self", .val (.ref x))]) _
  refine EX1.ret (EV.slice_from M (by l_ints) wf hb hk (by decide) (by decide) (by intro env; with_unfolding_all rfl) ?_)
  exact ⟨_, .inl rfl, rfl, h⟩
structure Grp (W : Wx) (a : AV) (f : Nat → Bool) : Prop where
  has : ∀ {g : Cx} {A : Around} {σ : St} {S : Shared} {c : Nat} {u v : Value} {P E : Value → Shared → Prop}, In W g A σ S → Rv S.heap (.str [c]) u → Rv S.heap a v → (∀ tk, P (.bool (f c)) { S with toks := tk }) → wpAny W.M A (compareOp .In u v) P E S
  hasnt : ∀ {g : Cx} {A : Around} {σ : St} {S : Shared} {c : Nat} {u v : Value} {P E : Value → Shared → Prop}, In W g A σ S → Rv S.heap (.str [c]) u → Rv S.heap a v → (∀ tk, P (.bool (!f c)) { S with toks := tk }) → wpAny W.M A (compareOp .NotIn u v) P E S
noncomputable def isVow (c : Nat) : Bool := [97, 101, 105, 111, 117].contains c
noncomputable def isDig (c : Nat) : Bool := [48, 49, 50, 51, 52, 53, 54, 55, 56, 57].contains c
noncomputable def isAou (c : Nat) : Bool := [97, 111, 117].contains c
theorem any_sign (ss : List (Str × Pos)) (ns : List Nat) (e : ss.map (fun x => x.1.cps.toList) = ns.map fun n => [n]) (c : Nat) : (ss.any fun x => decide (sx [c] = x.1)) = ns.contains c := by
  induction ss generalizing ns with
  | nil => cases ns with | nil => rfl | cons a b => cases e
  | cons y r ih =>
    cases ns with
    | nil => cases e
    | cons a b =>
      rw [List.map_cons, List.map_cons] at e
      injection e with e1 e2
      rw [List.any_cons, List.contains_cons, ih b e2]
      congr 1
      rw [Bool.eq_iff_iff, decide_eq_true_iff, beq_iff_eq]
      constructor
      · intro h
        rw [← h] at e1
        have : [c] = [a] := e1
        injection this
      · rintro rfl
        obtain ⟨⟨⟨q⟩⟩, t⟩ := y
        show (⟨⟨[c]⟩⟩ : Str) = ⟨⟨q⟩⟩
        have : q = [c] := e1
        rw [this]
theorem grp_set {W : Wx} {b : Addr} {ss : List (Str × Pos)} {ns : List Nat} {o : Obj} (hl : W.K.lookup b = some o) (hs : H.IsSet W.w ss o) (e : ss.map (fun x => x.1.cps.toList) = ns.map fun n => [n]) (hn : ss.length < 1000) : Grp W (.val (.ref b)) fun c => ns.contains c := by
  refine ⟨fun I r1 r2 h => ?_, fun I r1 r2 h => ?_⟩
  · obtain ⟨t, rfl⟩ := r1; cases r2
    refine wpAny_inSet_of (knd := PySem.strKind PW W.w) (k := sx [_]) (strKind_is _ _ _ _) rfl (hs.setOf (I.k _ _ hl) (by unfold scanBound; lia)) ?_
    rw [any_sign ss ns e]; exact h _
  · obtain ⟨t, rfl⟩ := r1; cases r2
    refine wpAny_notInSet_of (knd := PySem.strKind PW W.w) (k := sx [_]) (strKind_is _ _ _ _) rfl (hs.setOf (I.k _ _ hl) (by unfold scanBound; omega)) ?_
    rw [any_sign ss ns e]; exact h _
theorem grp_v {W : Wx} : Grp W (.val (.ref 232)) isVow := grp_set (by kernel_rfl) W.sets.1 (by kernel_rfl) (by decide)
theorem grp_d {W : Wx} : Grp W (.val (.ref 233)) isDig := grp_set (by kernel_rfl) W.sets.2 (by kernel_rfl) (by decide)
theorem aou_has (c : Nat) : (!(Builtin.Str.occurrences (sx [97, 111, 117]) (sx [c]) 0 (sx [97, 111, 117]).length 1).isEmpty) = isAou c := by
  refine (PySem.StrLaws.found_one (sx [97, 111, 117]) c).trans ?_
  unfold isAou
  rw [Bool.eq_iff_iff, decide_eq_true_iff, List.contains_iff_mem]
theorem grp_aou {W : Wx} : Grp W (.str [97, 111, 117]) isAou := by
  refine ⟨fun I r1 r2 h => ?_, fun I r1 r2 h => ?_⟩
  · obtain ⟨t, rfl⟩ := r1; obtain ⟨t', rfl⟩ := r2
    refine PyProof.Rows.in_str ?_
    rw [aou_has]
    exact h _
  · obtain ⟨t, rfl⟩ := r1; obtain ⟨t', rfl⟩ := r2
    refine PyProof.Rows.notIn_str ?_
    rw [aou_has]
    exact h _
theorem TR.grp {W : Wx} {fn : Fn} {σ : St} {l r : Expr} {p : Pos} {f : Nat → Bool} {Q : Bool → St → Prop} (h : EV W fn l σ fun a σ1 => EV W fn r σ1 fun b σ2 => ∃ c, a = .str [c] ∧ Grp W b f ∧ Q (f c) σ2) (hm : behindInMarks .In r = false) : TR W fn (.Compare l [.In] [r] p) σ Q := by
  refine ⟨fun g A S P E hg I k => ?_⟩
  refine wpAny_isTrue_Compare1 (h.run g A S _ E hg I fun u S1 a σ1 h1 I1 r1 s1 => h1.run g A S1 _ E hg I1 fun v S2 b σ2 h2 I2 r2 s2 => ?_) hm
  obtain ⟨c, rfl, G, hq⟩ := h2
  exact G.has I2 (r1.step s2) r2 fun tk => wpAny_truthy_bool (k _ _ _ hq (I2.toks _) (s1.trans s2))
theorem TR.ngrp {W : Wx} {fn : Fn} {σ : St} {l r : Expr} {p : Pos} {f : Nat → Bool} {Q : Bool → St → Prop} (h : EV W fn l σ fun a σ1 => EV W fn r σ1 fun b σ2 => ∃ c, a = .str [c] ∧ Grp W b f ∧ Q (!f c) σ2) (hm : behindInMarks .NotIn r = false) : TR W fn (.Compare l [.NotIn] [r] p) σ Q := by
  refine ⟨fun g A S P E hg I k => ?_⟩
  refine wpAny_isTrue_Compare1 (h.run g A S _ E hg I fun u S1 a σ1 h1 I1 r1 s1 => h1.run g A S1 _ E hg I1 fun v S2 b σ2 h2 I2 r2 s2 => ?_) hm
  obtain ⟨c, rfl, G, hq⟩ := h2
  exact G.hasnt I2 (r1.step s2) r2 fun tk => wpAny_truthy_bool (k _ _ _ hq (I2.toks _) (s1.trans s2))
theorem ms_in_grouping_b : MS F_in_grouping_b := ⟨by kernel_rfl, by kernel_rfl⟩
theorem in_grouping_b {W : Wx} {x dx : Addr} {F : Fd} {a : AV} {f : Nat → Bool} {Q : AV → List (Str × AV) → Prop} (G : Grp W a f) (wf : Wf F)
    (h : if F.lb < F.cu ∧ f (F.cur.getD (F.cu - 1) 0) = true then Q (.bool true) (FL { F with cu := F.cu - 1 }) else Q (.bool false) (FL F)) : CallOK W 77 0 [.val (.ref x), a] (some (x, dx)) (FL F) Q := by
  have M := ms_in_grouping_b
  have w1 := wf.c
  have w2 := wf.l
  have w3 := wf.z
  refine call_in_grouping_b rfl ?_
  refine EX.cons ?_
  show EX1 W F_in_grouping_b _ (Sm x dx F [("self", .val (.ref x)), ("s", a)]) _
  walk_at "w"
  by_cases hc : F.lb < F.cu
  · refine ifN (by rw [decide_eq_true_iff]; lia) ?_
    walk_at "w1"
    try dsimp only
    walk_at "w1"
    walk_at "w1"
    refine TR.ngrp (f := f) ?_ (by rfl)
    refine EV.item ?_
    walk_at "w"
    refine ⟨by lia, ?_⟩
    walk_at "w"
    refine ⟨by lia, by lia, ?_⟩
    walk_at "w"
    refine ⟨G, ?_⟩
    rw [show ((F.cu : Int) - 1).toNat = F.cu - 1 from by lia]
    cases hf : f (F.cur.getD (F.cu - 1) 0)
    · rw [if_neg (by rw [hf]; simp)] at h
      refine ifP (by decide) ?_
      walk_at "w"
      exact ⟨_, .inl rfl, rfl, h⟩
    · rw [if_pos ⟨hc, hf⟩] at h
      refine ifN (by decide) ?_
      walk_at "w"
      refine EX1.dec M (by l_ints) (by lia) ?_
      walk_at "w"
      exact ⟨_, .inl rfl, rfl, h⟩
  · refine ifP (by rw [decide_eq_true_iff]; lia) ?_
    rw [if_neg (by omega)] at h
    walk_at "w"
    exact ⟨_, .inl rfl, rfl, h⟩
noncomputable def goOut (f : Nat → Bool) (cur : List Nat) (lb : Nat) : Nat → Nat
  | 0 => 0
  | c + 1 => if c + 1 ≤ lb then c + 1 else if f (cur.getD c 0) then c + 1 else goOut f cur lb c
theorem goOut_succ (f : Nat → Bool) (cur : List Nat) (lb c : Nat) : goOut f cur lb (c + 1) = if c + 1 ≤ lb then c + 1 else if f (cur.getD c 0) then c + 1 else goOut f cur lb c := rfl
theorem ms_go_out_grouping_b : MS F_go_out_grouping_b := ⟨by kernel_rfl, by kernel_rfl⟩
theorem go_out_grouping_b {W : Wx} {x dx : Addr} {F : Fd} {a : AV} {f : Nat → Bool} {Q : AV → List (Str × AV) → Prop} (G : Grp W a f) (wf : Wf F)
    (h : Q (.bool (decide (F.lb < goOut f F.cur F.lb F.cu))) (FL { F with cu := goOut f F.cur F.lb F.cu })) : CallOK W 112 0 [.val (.ref x), a] (some (x, dx)) (FL F) Q := by
  have M := ms_go_out_grouping_b
  have w1 := wf.c
  have w2 := wf.l
  have w3 := wf.z
  refine call_go_out_grouping_b rfl ?_
  refine EX.cons ?_
  show EX1 W F_go_out_grouping_b _ (Sm x dx F [("self", .val (.ref x)), ("s", a)]) _
  let Pq1 : Nat → St → Prop := fun nn σ => nn ≤ F.cu ∧ goOut f F.cur F.lb nn = goOut f F.cur F.lb F.cu ∧ σ = Sm x dx { F with cu := nn } [("self", .val (.ref x)), ("s", a)]
  refine EX1.while_ Pq1 (fun nn σ hJ => ?_) F.cu ⟨Nat.le_refl _, rfl, rfl⟩
  obtain ⟨hn, he, rfl⟩ := hJ
  walk_at "w"
  by_cases hc : F.lb < nn
  · refine ifP (by rw [decide_eq_true_iff]; exact Int.ofNat_lt.mpr hc) ?_
    refine EX.cons (EX1.if_ (TR.grp (f := f) ?_ (by rfl)))
    refine EV.item ?_
    walk_at "w"
    refine ⟨by lia, ?_⟩
    walk_at "w"
    refine ⟨by lia, by lia, ?_⟩
    walk_at "w"
    refine ⟨G, ?_⟩
    obtain ⟨m, rfl⟩ : ∃ m, nn = m + 1 := ⟨nn - 1, by lia⟩
    rw [show (((m + 1 : Nat) : Int) - 1).toNat = m from by lia]
    rw [goOut_succ, if_neg (by lia)] at he
    cases hf : f (F.cur.getD m 0)
    · rw [hf, if_neg (by decide)] at he
      refine ifN (by decide) ?_
      walk_at "w"
      refine EX1.dec M (by l_ints) (by show 0 < m + 1; exact Nat.succ_pos _) ?_
      walk_at "w"
      exact ⟨m, by lia, by exact Nat.le_of_lt ‹_›, he, rfl⟩
    · rw [hf, if_pos rfl] at he
      refine ifP rfl ?_
      walk_at "w"
      refine ⟨_, .inl rfl, rfl, ?_⟩
      rw [← he, decide_eq_true hc] at h
      exact h
  · refine ifN (by rw [decide_eq_true_iff]; lia) ?_
    walk_at "w"
    refine ⟨_, .inl rfl, rfl, ?_⟩
    have e2 : goOut f F.cur F.lb nn = nn := by
      cases nn with
      | zero => rfl
      | succ m => rw [goOut_succ, if_pos (by exact Nat.not_lt.mp ‹_›)]
    rw [← he, e2, decide_eq_false hc] at h
    exact h
theorem ms_set_current : MS F_set_current := ⟨by kernel_rfl, by kernel_rfl⟩
noncomputable def fresh (t : List Nat) : Fd := ⟨t, 0, t.length, 0, 0, t.length⟩
theorem set_current {W : Wx} {x dx : Addr} {F : Fd} {t : List Nat} {Q : AV → List (Str × AV) → Prop} (ht : t.length ≤ 500)
    (h : Q .none (FL (fresh t))) : CallOK W 42 0 [.val (.ref x), .str t] (some (x, dx)) (FL F) Q := by
  have M := ms_set_current
  refine call_set_current rfl ?_
  refine EX.cons ?_
  show EX1 W F_set_current _ (Sm x dx F [("self", .val (.ref x)), ("value", .str t)]) _
  refine EX1.setF M (by l_ints) nf_current ?_ (by intro env; rfl)
  walk_at "w"
  refine ⟨F, _, rfl, put_current _ _, ?_⟩
  walk_at "w"
  refine ⟨.int t.length, len_strA (by lia), ?_⟩
  walk_at "w"
  exact ⟨_, .inr ⟨rfl, rfl⟩, rfl, h⟩
theorem setG {W : Wx} {fn : Fn} {x dx : Addr} {fl fl2 loc : List (Str × AV)} {np p p' : Pos} {name : Str} {e : Expr} {v : AV} {Q : AF → St → Prop} (M : MS fn) (hs : loc.lookup ("self" : Str) = some (.val (.ref x))) (hf : findIn W.K (.ref 674) name = some none)
    (hsw : ∀ env, swapsWith e (some (.Attribute (.Name "self" np) name p')) p.line env = pure false) (h : EV W fn e ⟨loc, some (x, dx), fl, none⟩ fun a σ' => a = v ∧ σ' = ⟨loc, some (x, dx), fl, none⟩) (hl : fl.length ≤ 100) (hp : putF name v fl = fl2)
    (hq : Q .next ⟨loc, some (x, dx), fl2, none⟩) : EX1 W fn (.Assign [.Attribute (.Name "self" np) name p'] e p) ⟨loc, some (x, dx), fl, none⟩ Q := by
  refine EX1.setattr (h.mono fun a σ' hh => ?_) hf hsw
  obtain ⟨rfl, rfl⟩ := hh
  refine EV.name hs ⟨x, dx, rfl, rfl, hl, ?_⟩ M.self (by decide)
  show Q .next ⟨loc, some (x, dx), putF name a fl, none⟩
  rw [hp]; exact hq
theorem set_current0 {W : Wx} {x dx : Addr} {t : List Nat} {Q : AV → List (Str × AV) → Prop} (ht : t.length ≤ 500)
    (h : Q .none (FL (fresh t))) : CallOK W 42 0 [.val (.ref x), .str t] (some (x, dx)) [] Q := by
  have M := ms_set_current
  refine call_set_current rfl ?_
  refine EX.cons ?_
  show EX1 W F_set_current _ ⟨[("self", .val (.ref x)), ("value", .str t)], some (x, dx), [], none⟩ _
  refine setG M (v := .str t) (fl2 := [("current", .str t)]) (by l_ints) nf_current (by intro env; rfl) ?_ (by simp) (by rfl) ?_
  · walk_at "w"
    exact ⟨rfl, rfl⟩
  refine EX.cons ?_
  refine setG M (v := .int 0) (fl2 := [("current", .str t), ("cursor", .int 0)]) (by l_ints) nf_cursor (by intro env; rfl) ?_ (by simp) (by rfl) ?_
  · walk_at "w"
    exact ⟨rfl, rfl⟩
  refine EX.cons ?_
  refine setG M (v := .int t.length) (fl2 := [("current", .str t), ("cursor", .int 0), ("limit", .int t.length)]) (by l_ints) nf_limit (by intro env; rfl) ?_ (by simp) (by rfl) ?_
  · walk_at "w"
    refine EV.attr (EV.name rfl ⟨_, _, _, rfl, rfl, rfl, rfl, ?_⟩ M.self (by decide)) nf_current
    exact ⟨_, len_strA (by omega), rfl, rfl⟩
  refine EX.cons ?_
  refine setG M (v := .int 0) (fl2 := [("current", .str t), ("cursor", .int 0), ("limit", .int t.length), ("limit_backward", .int 0)]) (by l_ints) nf_lb (by intro env; rfl) ?_ (by simp) (by rfl) ?_
  · walk_at "w"
    exact ⟨rfl, rfl⟩
  refine EX.cons ?_
  refine setG M (v := .int 0) (fl2 := [("current", .str t), ("cursor", .int 0), ("limit", .int t.length), ("limit_backward", .int 0), ("bra", .int 0)]) (by l_ints) nf_bra (by intro env; rfl) ?_ (by simp) (by rfl) ?_
  · refine EV.attr (EV.name rfl ⟨_, _, _, rfl, rfl, rfl, rfl, ?_⟩ M.self (by decide)) nf_cursor
    exact ⟨rfl, rfl⟩
  refine EX.cons ?_
  refine setG M (v := .int t.length) (fl2 := FL (fresh t)) (by l_ints) nf_ket (by intro env; rfl) ?_ (by simp) (by rfl) ?_
  · refine EV.attr (EV.name rfl ⟨_, _, _, rfl, rfl, rfl, rfl, ?_⟩ M.self (by decide)) nf_limit
    exact ⟨rfl, rfl⟩
  walk_at "w"
  exact ⟨_, .inr ⟨rfl, rfl⟩, rfl, h⟩
theorem ms_get_current : MS F_get_current := ⟨by kernel_rfl, by kernel_rfl⟩
theorem get_current {W : Wx} {x dx : Addr} {F : Fd} {Q : AV → List (Str × AV) → Prop} 
    (h : Q (.str F.cur) (FL F)) : CallOK W 49 0 [.val (.ref x)] (some (x, dx)) (FL F) Q := by
  have M := ms_get_current
  refine call_get_current rfl ?_
  refine EX.cons ?_
  show EX1 W F_get_current _ (Sm x dx F [("self", .val (.ref x))]) _
  walk_at "w"
  exact ⟨_, .inl rfl, rfl, h⟩
end
noncomputable section
open PySem PySem.W PySem.Calls PyProof.Rows Builtin
open H (Sets fEnd KF kf_in QV looseV PW)

section
variable {F : Fd}
theorem back_nil (wf : Wf F) (hl : F.lb = 0) : back F = [] ↔ F.cu = 0 := by
  rw [← List.length_eq_zero_iff, back_len wf (by lia)]; lia
theorem back_drop (wf : Wf F) (hl : F.lb = 0) (k : Nat) (hk : k ≤ F.cu) : back { F with cu := F.cu - k } = (back F).drop k := by
  have w1 := wf.c; have w2 := wf.l
  unfold back
  dsimp only
  rw [hl, List.drop_zero, List.drop_zero, List.drop_reverse, List.length_take, List.take_take]
  congr 2
  lia
theorem atb_head (wf : Wf F) (hl : F.lb = 0) (ch : Nat) : atb F ch = ((back F).head? == some ch) := by
  have w1 := wf.c; have w2 := wf.l
  unfold atb
  by_cases h : F.cu = 0
  · rw [(back_nil wf hl).mpr h, h]; simp
  · have := back_get (m := 0) wf (by omega) (by lia)
    rw [Nat.sub_zero] at this
    rw [decide_eq_true (by lia), Bool.true_and, ← this]
    cases hb : back F with
    | nil => exact absurd ((back_nil wf hl).mp hb) h
    | cons a r => show (a == ch) = (some a == some ch); rfl
noncomputable def optF (F : Fd) (ch : Nat) : Fd := { F with cu := if atb F ch then F.cu - 1 else F.cu }
theorem optF_wf (wf : Wf F) (ch : Nat) : Wf (optF F ch) := by
  refine ⟨?_, wf.l, wf.z⟩
  unfold optF
  have := wf.c
  dsimp only
  split <;> omega
theorem optF_back (wf : Wf F) (hl : F.lb = 0) (ch : Nat) : back (optF F ch) = A.offc ch (back F) := by
  unfold optF
  rw [atb_head wf hl]
  cases hb : back F with
  | nil =>
    have e := (back_nil wf hl).mp hb
    rw [← hb]
    simp only [hb]
    exact hb
  | cons a r =>
    by_cases h : a = ch
    · subst h
      rw [if_pos (by simp), back_drop wf hl 1 (by have := (back_nil wf hl); rw [hb] at this; simp at this; lia), hb]
      simp [A.offc]
    · rw [if_neg (by simpa using h)]
      simp only [A.offc, if_neg h]
      exact hb
theorem hy_iff (wf : Wf F) (hl : F.lb = 0) : A.hy (back F) = (decide (F.cu ≤ F.lb) || atb F 45) := by
  rw [atb_head wf hl]
  cases hb : back F with
  | nil => rw [decide_eq_true (by have := (back_nil wf hl).mp hb; lia)]; rfl
  | cons a r =>
    rw [decide_eq_false (by have := (back_nil wf hl); rw [hb] at this; simp at this; lia)]
    rfl
end
theorem tabOf {T : List Am} (h : A.tabB (T.map (·.s.reverse)) (T.map (·.sub)) = true) : A.Tab (fun i => (T.getD i dAm).s.reverse) (fun i => (T.getD i dAm).sub) T.length := by
  have := A.tab_of h
  rw [List.length_map] at this
  have e1 : (fun i => (T.map (·.s.reverse)).getD i []) = fun i => (T.getD i dAm).s.reverse := by
    funext i
    rw [List.getD_eq_getElem?_getD, List.getElem?_map, List.getD_eq_getElem?_getD]
    cases T[i]? <;> rfl
  have e2 : (fun i => (T.map (·.sub)).getD i 0) = fun i => (T.getD i dAm).sub := by
    funext i
    rw [List.getD_eq_getElem?_getD, List.getElem?_map, List.getD_eq_getElem?_getD]
    cases T[i]? <;> rfl
  rw [e1, e2] at this
  exact this
section
variable {W : Wx} {fn : Fn} {x dx : Addr} {F : Fd} {loc : List (Str × AV)} {np p : Pos}
theorem EV.find_b {ta : Str} {t : Addr} {T : List Am} {ap np2 p2 : Pos} {Q : AV → St → Prop} (M : MS fn) (hs : loc.lookup ("self" : Str) = some (.val (.ref x))) (hesp : fn.sc.names.lookup ("EsperantoStemmer" : Str) = some .globalImplicit)
    (hf : findCls W.K (.ref 674) (.type "type") ta = some (.val (.ref t))) (hl : listOk W.K t T) (hm : T.all (amOk W.K) = true) (hz : T.length ≤ 1000) (tb : A.tabB (T.map (·.s.reverse)) (T.map (·.sub)) = true) (hsz : (T.all fun m => decide (m.s.length ≤ 500)) = true)
    (wf : Wf F) (hlb : F.lb ≤ F.cu) (hrm : 0 < fn.rm) (he : MthEq np "find_among_b" ap p [.Attribute (.Name "EsperantoStemmer" np2) ta p2])
    (h1 : ∀ i, A.Best (fun i => (T.getD i dAm).s.reverse) T.length (back F) (some i) → Q (.int (T.getD i dAm).res) (Sm x dx { F with cu := F.cu - (T.getD i dAm).s.length } loc))
    (h0 : A.Best (fun i => (T.getD i dAm).s.reverse) T.length (back F) none → Q (.int 0) (Sm x dx F loc)) : EV W fn (.Call (.Attribute (.Name "self" np) "find_among_b" ap) [.Attribute (.Name "EsperantoStemmer" np2) ta p2] [] p) (Sm x dx F loc) Q := by
  refine EV.meth (f := 140) (rm := 0) (EV.self M hs ⟨_, _, rfl, rfl, rfl, AR.cons (EV.clsattr (EV.glob g_esp ⟨rfl, AR.nil (Mine.find_b hl hm hz wf hlb (tabOf tb) (fun i => ?_) fun r B => ?_)⟩ M.kind hesp (by decide)) hf rfl) (by intro env; rfl)⟩) (by kernel_rfl) (by kernel_rfl) (by kernel_rfl) hrm plS he
  · rw [List.getD_eq_getElem?_getD]
    cases e : T[i]? with
    | none => show 0 ≤ 500; lia
    | some m => exact of_decide_eq_true (List.all_eq_true.mp hsz m (List.mem_of_getElem? e))
  · cases r with
    | none => exact h0 B
    | some i => exact h1 i B
end
section
variable {W : Wx} {fn : Fn} {x dx : Addr} {F : Fd} {loc : List (Str × AV)} {np p : Pos}
theorem EX1.hyph2 {t : Expr} {Q : AF → St → Prop} {p0 p1 p2 p3 p4 p5 p6 p7 p8 p9 p10 p11 p12 p13 p14 p15 p16 p17 p18 p19 n2 n3 : Pos} {kd kd2} {kc} (M : MS fn) (hs : loc.lookup ("self" : Str) = some (.val (.ref x)))
    (lb : Str) (kk : Bool) (en : nsIn W.K mainGlobals lb = some (some (.ref (labOf kk)))) (hlb : fn.sc.names.lookup lb = some .globalImplicit) (hld : (lb == ("__debug__" : Str)) = false) (wf : Wf F) (hl : F.lb = 0)
    (ht : ∀ Q' : Bool → St → Prop, Q' (!atb F 45) (Sm x dx F loc) → TR W fn t (Sm x dx F loc) Q')
    (h1 : A.hy (back F) = true → ∀ c, c ≤ F.cu → Q .next (Sm x dx { F with cu := c } loc)) (h0 : A.hy (back F) = false → Q (.ret (.bool false)) (Sm x dx F loc)) :
    EX1 W fn (.While (.Constant (.bool true) kc p0) [.Try [.If (.Compare (.Attribute (.Name "self" np) "cursor" p1) [.Gt] [.Attribute (.Name "self" n2) "limit_backward" p2] p3) [.Raise (some (.Call (.Name lb p4) [] [] p5)) none p6] [] p7, .Break p8]
        [.ExceptHandler (some (.Name lb p9)) none [.Pass p10] p11] [] [] p12,
      .If t [.Return (some (.Constant (.bool false) kd2 p13)) p14] [] p15, .AugAssign (.Attribute (.Name "self" n3) "cursor" p16) .Sub (.Constant (.int 1) kd p17) p18, .Break p19] [] p) (Sm x dx F loc) Q := by
  refine EX1.hyph M hs lb kk en hlb hld (by omega) ht ?_
  rw [hy_iff wf hl] at h1 h0
  by_cases hc : F.cu ≤ F.lb
  · rw [if_pos hc]
    exact h1 (by rw [decide_eq_true hc]; rfl) F.cu (Nat.le_refl _)
  · rw [if_neg hc]
    rw [decide_eq_false hc, Bool.false_or] at h1 h0
    cases hb : atb F 45
    · rw [if_neg (by decide)]
      exact h0 hb
    · rw [if_pos rfl]
      exact h1 hb _ (Nat.sub_le ..)
theorem EV.slice_del {ap : Pos} {Q : AV → St → Prop} (M : MS fn) (hs : loc.lookup ("self" : Str) = some (.val (.ref x))) (wf : Wf F) (hb : F.br ≤ F.ke) (hk : F.ke ≤ F.li) (hrm : 2 < fn.rm) (he : MthEq np "slice_del" ap p [])
    (h : Q .none (Sm x dx { repl F F.br F.ke [] with ke := F.br } loc)) : EV W fn (.Call (.Attribute (.Name "self" np) "slice_del" ap) [] [] p) (Sm x dx F loc) Q :=
  EV.meth0 (f := 161) (rm := 2) (EV.self M hs ⟨_, _, rfl, rfl, rfl, Mine.slice_del wf hb hk h⟩) (by kernel_rfl) (by kernel_rfl) (by kernel_rfl) hrm plS he
end
namespace A
noncomputable def inT (T : List Am) (P : List Nat) : Bool := (T.map (·.s.reverse)).contains P
theorem inT_at {T : List Am} {i : Nat} (h : i < T.length) {P : List Nat} (e : P = (T.getD i dAm).s.reverse) : inT T P = true := by
  unfold inT
  rw [List.contains_iff_mem, e, List.getD_eq_getElem?_getD, List.getElem?_eq_getElem h]
  exact List.mem_map_of_mem (f := fun m : Am => m.s.reverse) (List.getElem_mem h)
theorem inT_no {T : List Am} {P : List Nat} (h : ∀ m, m < T.length → P ≠ (T.getD m dAm).s.reverse) : inT T P = false := by
  unfold inT
  rw [Bool.eq_false_iff]
  intro e
  rw [List.contains_iff_mem, List.mem_map] at e
  obtain ⟨m, hm, rfl⟩ := e
  obtain ⟨i, hi, e⟩ := List.mem_iff_getElem.mp hm
  refine h i hi ?_
  rw [List.getD_eq_getElem?_getD, List.getElem?_eq_getElem hi]
  show _ = (T[i]).s.reverse
  rw [e]
noncomputable def noHy (T : List Am) : Bool := T.all fun m => m.s.all (· != 45)
theorem noHy_at {T : List Am} (h : noHy T = true) (m : Nat) (hm : m < T.length) : ∀ c ∈ (T.getD m dAm).s.reverse, c ≠ 45 := by
  intro c hc
  rw [List.getD_eq_getElem?_getD, List.getElem?_eq_getElem hm] at hc
  have := List.all_eq_true.mp (List.all_eq_true.mp h _ (List.getElem_mem hm)) c (List.mem_reverse.mp hc)
  simpa using this
theorem part_inT {T : List Am} (hn : noHy T = true) {R : List Nat} {i : Nat} (B : Best (fun i => (T.getD i dAm).s.reverse) T.length R (some i)) : inT T (part R) = hy (R.drop (T.getD i dAm).s.length) := by
  have e : (T.getD i dAm).s.length = ((fun i => (T.getD i dAm).s.reverse) i).length := by simp
  rw [e]
  cases h : hy (R.drop ((fun i => (T.getD i dAm).s.reverse) i).length)
  · exact inT_no fun m hm => best_nhy (noHy_at hn) B h m hm
  · exact inT_at B.1 (best_hy (noHy_at hn) B h)
theorem part_inT0 {T : List Am} {R : List Nat} (B : Best (fun i => (T.getD i dAm).s.reverse) T.length R none) : inT T (part R) = false := inT_no fun m hm => best_none B m hm
noncomputable def pPron (R : List Nat) : Option (List Nat) := if inT T_a_2 (part (offc 110 R)) then some (offc 110 R) else none
noncomputable def pUjn (R : List Nat) : Option (List Nat) := if inT T_a_4 (part (offc 106 (offc 110 R))) then some (offc 106 (offc 110 R)) else none
end A
def RQ (F : Fd) (o : Option (List Nat)) (Q : AV → List (Str × AV) → Prop) : Prop :=
  ∀ F' : Fd, (o = none → F'.cur = F.cur → F'.li = F.li → F'.lb = F.lb → Q (.bool false) (FL F')) ∧ (∀ u, o = some u → F'.cur = u.reverse → Q (.bool true) (FL F'))
theorem back_full {F : Fd} (wf : Wf F) (hl : F.lb = 0) (hcu : F.cu = F.li) : back F = F.cur.reverse := by
  have := wf.l
  unfold back
  rw [hl, List.drop_zero, List.take_of_length_le (by lia)]
theorem res_ne {T : List Am} {i : Nat} (h : (T.all fun m => m.res != 0) = true) (hi : i < T.length) : (T.getD i dAm).res ≠ 0 := by
  rw [List.getD_eq_getElem?_getD, List.getElem?_eq_getElem hi]
  have := List.all_eq_true.mp h _ (List.getElem_mem hi)
  simpa using this
theorem repl_cut (F : Fd) (b k : Nat) (hk : k = F.cur.length) : (repl F b k []).cur = F.cur.take b := by
  unfold repl
  rw [hk]
  simp
theorem back_rev {F : Fd} (hl : F.lb = 0) : (back F).reverse = F.cur.take F.cu := by
  unfold back
  rw [hl, List.reverse_reverse]
  rfl
theorem ms_r_pronoun : MS F_r_pronoun := ⟨by kernel_rfl, by kernel_rfl⟩
set_option maxHeartbeats 1000000 in
theorem r_pronoun {W : Wx} {x dx : Addr} {F : Fd} {Q : AV → List (Str × AV) → Prop} (wf : Wf F) (hl : F.lb = 0) (hcu : F.cu = F.li) (h : RQ F (A.pPron F.cur.reverse) Q) : CallOK W 254 3 [.val (.ref x)] (some (x, dx)) (FL F) Q := by
  have M := ms_r_pronoun
  refine call_r_pronoun rfl ?_
  refine EX.cons ?_
  show EX1 W F_r_pronoun _ (Sm x dx F [("self", .val (.ref x))]) _
  walk_at "w"
  have wf0 : Wf { F with ke := F.cu } := ⟨wf.c, wf.l, wf.z⟩
  refine EX1.opt (ch := 110) (v := "v_1") M (by l_ints) (by kernel_rfl) (by decide) "lab0" false (by kernel_rfl) (by kernel_rfl) (by decide) (by l_ints) (fun Q' hq => TR.notb M (by l_ints) wf0 (by rfl) hq) ?_
  show EX W F_r_pronoun _ (Sm x dx (optF { F with ke := F.cu } 110) _) _
  have wf1 := optF_wf wf0 110
  have b1 := optF_back wf0 hl 110
  obtain ⟨F1, hF1⟩ : ∃ F1, F1 = optF { F with ke := F.cu } 110 := ⟨_, rfl⟩
  rw [← hF1] at wf1 b1 ⊢
  walk_at "w"
  obtain ⟨F2, hF2⟩ : ∃ F2 : Fd, F2 = { F1 with br := F1.cu } := ⟨_, rfl⟩
  have wf2 : Wf F2 := by rw [hF2]; exact ⟨wf1.c, wf1.l, wf1.z⟩
  have b2 : back F2 = A.offc 110 F.cur.reverse := by
    rw [← back_full wf hl hcu]
    have : back F2 = back F1 := by rw [hF2]; rfl
    rw [this, b1]
    rfl
  have hl2 : F2.lb = 0 := by rw [hF2, hF1]; exact hl
  have hcur : F2.cur = F.cur := by rw [hF2, hF1]; rfl
  have hli : F2.li = F.li := by rw [hF2, hF1]; rfl
  have hke : F2.ke = F.cu := by rw [hF2, hF1]; rfl
  have hbr : F2.br = F2.cu := by rw [hF2]
  rw [← hF2]
  refine EV.find_b (t := 433) (T := T_a_2) M (by l_ints) (by kernel_rfl) (by kernel_rfl) l_a_2 m_a_2 (by decide) s_a_2 (by decide +kernel) wf2 (by lia) (by decide) (by intro env; with_unfolding_all rfl) (fun i B => ?_) (fun B => ?_)
  · walk_at "w"
    have hr := res_ne (by decide +kernel) B.1
    refine ifN (by rw [beq_iff_eq]; exact hr) ?_
    walk_at "w"
    have hB := A.part_inT (by decide +kernel) B
    rw [← back_drop wf2 hl2 _ (by have := A.pre_len B.2.1; rw [back_len wf2 (by lia)] at this; simp only [List.length_reverse] at this; lia)] at hB
    have wf3 : Wf { F2 with cu := F2.cu - (T_a_2.getD i dAm).s.length } := ⟨by have := wf2.c; dsimp only; lia, wf2.l, wf2.z⟩
    refine EX1.hyph2 M (by l_ints) "lab0" false (by kernel_rfl) (by kernel_rfl) (by decide) wf3 hl2 (fun Q' hq => TR.notb M (by l_ints) wf3 (by rfl) hq) (fun hh c hc => ?_) (fun hh => ?_)
    · have e1 : A.pPron F.cur.reverse = some (back F2) := by unfold A.pPron; rw [← b2, hB, hh]; rfl
      have w2 := wf2.c
      refine EX.cons (EX1.expr (EV.slice_del M (by l_ints) ⟨by dsimp only at hc ⊢; lia, wf2.l, wf2.z⟩ (by dsimp only; rw [hbr, hke]; lia) (by dsimp only; lia) (by decide) (by intro env; with_unfolding_all rfl) ?_) (by rfl) (by intro env; rfl))
      walk_at "w"
      refine ⟨_, .inl rfl, rfl, (h _).2 _ e1 ?_⟩
      refine (repl_cut _ _ _ (by dsimp only; have := wf.l; rw [hcur, hke]; lia)).trans ?_
      rw [back_rev hl2, hbr]
    · refine ⟨_, .inl rfl, rfl, (h _).1 ?_ hcur hli (by show F2.lb = _; lia)⟩
      unfold A.pPron
      rw [← b2, hB, hh]
      rfl
  · walk_at "w"
    refine ifP (by decide) ?_
    walk_at "w"
    refine ⟨_, .inl rfl, rfl, (h F2).1 ?_ hcur hli (by omega)⟩
    unfold A.pPron
    rw [← b2, A.part_inT0 B]
    rfl
theorem ms_r_ujn_suffix : MS F_r_ujn_suffix := ⟨by kernel_rfl, by kernel_rfl⟩
set_option maxHeartbeats 1000000 in
theorem r_ujn_suffix {W : Wx} {x dx : Addr} {F : Fd} {Q : AV → List (Str × AV) → Prop} (wf : Wf F) (hl : F.lb = 0) (hcu : F.cu = F.li) (h : RQ F (A.pUjn F.cur.reverse) Q) : CallOK W 268 3 [.val (.ref x)] (some (x, dx)) (FL F) Q := by
  have M := ms_r_ujn_suffix
  refine call_r_ujn_suffix rfl ?_
  refine EX.cons ?_
  show EX1 W F_r_ujn_suffix _ (Sm x dx F [("self", .val (.ref x))]) _
  walk_at "w"
  have wf0 : Wf { F with ke := F.cu } := ⟨wf.c, wf.l, wf.z⟩
  refine EX1.opt (ch := 110) (v := "v_1") M (by l_ints) (by kernel_rfl) (by decide) "lab0" false (by kernel_rfl) (by kernel_rfl) (by decide) (by l_ints) (fun Q' hq => TR.notb M (by l_ints) wf0 (by rfl) hq) ?_
  show EX W F_r_ujn_suffix _ (Sm x dx (optF { F with ke := F.cu } 110) _) _
  have wf1 := optF_wf wf0 110
  have b1 := optF_back wf0 hl 110
  obtain ⟨F1, hF1⟩ : ∃ F1, F1 = optF { F with ke := F.cu } 110 := ⟨_, rfl⟩
  rw [← hF1] at wf1 b1 ⊢
  have hl1 : F1.lb = 0 := by rw [hF1]; exact hl
  walk_at "w"
  refine EX1.opt (ch := 106) (v := "v_2") M (by l_ints) (by kernel_rfl) (by decide) "lab0" false (by kernel_rfl) (by kernel_rfl) (by decide) (by l_ints) (fun Q' hq => TR.notb M (by l_ints) wf1 (by rfl) hq) ?_
  show EX W F_r_ujn_suffix _ (Sm x dx (optF F1 106) _) _
  have wf1' := optF_wf wf1 106
  have b1' := optF_back wf1 hl1 106
  obtain ⟨F1', hF1'⟩ : ∃ F1', F1' = optF F1 106 := ⟨_, rfl⟩
  rw [← hF1'] at wf1' b1' ⊢
  walk_at "w"
  obtain ⟨F2, hF2⟩ : ∃ F2 : Fd, F2 = { F1' with br := F1'.cu } := ⟨_, rfl⟩
  have wf2 : Wf F2 := by rw [hF2]; exact ⟨wf1'.c, wf1'.l, wf1'.z⟩
  have b2 : back F2 = A.offc 106 (A.offc 110 F.cur.reverse) := by
    rw [← back_full wf hl hcu]
    have : back F2 = back F1' := by rw [hF2]; rfl
    rw [this, b1', b1]
    rfl
  have hl2 : F2.lb = 0 := by rw [hF2, hF1']; exact hl1
  have hcur : F2.cur = F.cur := by rw [hF2, hF1', hF1]; rfl
  have hli : F2.li = F.li := by rw [hF2, hF1', hF1]; rfl
  have hke : F2.ke = F.cu := by rw [hF2, hF1', hF1]; rfl
  have hbr : F2.br = F2.cu := by rw [hF2]
  rw [← hF2]
  refine EV.find_b (t := 501) (T := T_a_4) M (by l_ints) (by kernel_rfl) (by kernel_rfl) l_a_4 m_a_4 (by decide) s_a_4 (by decide +kernel) wf2 (by lia) (by decide) (by intro env; with_unfolding_all rfl) (fun i B => ?_) (fun B => ?_)
  · walk_at "w"
    have hr := res_ne (by decide +kernel) B.1
    refine ifN (by rw [beq_iff_eq]; exact hr) ?_
    walk_at "w"
    have hB := A.part_inT (by decide +kernel) B
    rw [← back_drop wf2 hl2 _ (by have := A.pre_len B.2.1; rw [back_len wf2 (by lia)] at this; simp only [List.length_reverse] at this; lia)] at hB
    have wf3 : Wf { F2 with cu := F2.cu - (T_a_4.getD i dAm).s.length } := ⟨by have := wf2.c; dsimp only; lia, wf2.l, wf2.z⟩
    refine EX1.hyph2 M (by l_ints) "lab0" false (by kernel_rfl) (by kernel_rfl) (by decide) wf3 hl2 (fun Q' hq => TR.notb M (by l_ints) wf3 (by rfl) hq) (fun hh c hc => ?_) (fun hh => ?_)
    · have e1 : A.pUjn F.cur.reverse = some (back F2) := by unfold A.pUjn; rw [← b2, hB, hh]; rfl
      have w2 := wf2.c
      refine EX.cons (EX1.expr (EV.slice_del M (by l_ints) ⟨by dsimp only at hc ⊢; lia, wf2.l, wf2.z⟩ (by dsimp only; rw [hbr, hke]; lia) (by dsimp only; lia) (by decide) (by intro env; with_unfolding_all rfl) ?_) (by rfl) (by intro env; rfl))
      walk_at "w"
      refine ⟨_, .inl rfl, rfl, (h _).2 _ e1 ?_⟩
      refine (repl_cut _ _ _ (by dsimp only; have := wf.l; rw [hcur, hke]; lia)).trans ?_
      rw [back_rev hl2, hbr]
    · refine ⟨_, .inl rfl, rfl, (h _).1 ?_ hcur hli (by show F2.lb = _; lia)⟩
      unfold A.pUjn
      rw [← b2, hB, hh]
      rfl
  · walk_at "w"
    refine ifP (by decide) ?_
    walk_at "w"
    refine ⟨_, .inl rfl, rfl, (h F2).1 ?_ hcur hli (by omega)⟩
    unfold A.pUjn
    rw [← b2, A.part_inT0 B]
    rfl
end
noncomputable section
open PySem PySem.W PySem.Calls PyProof.Rows Builtin
open H (Sets fEnd KF kf_in QV looseV PW)

theorem ms_r_uninflected : MS F_r_uninflected := ⟨by kernel_rfl, by kernel_rfl⟩
theorem r_uninflected {W : Wx} {x dx : Addr} {F : Fd} {Q : AV → List (Str × AV) → Prop} (wf : Wf F) (hl : F.lb = 0) (hcu : F.cu = F.li)
    (h : ∀ F' : Fd, F'.cur = F.cur → F'.li = F.li → F'.lb = F.lb → Q (.bool (A.inT T_a_5 (A.part F.cur.reverse))) (FL F')) : CallOK W 275 3 [.val (.ref x)] (some (x, dx)) (FL F) Q := by
  have M := ms_r_uninflected
  refine call_r_uninflected rfl ?_
  refine EX.cons ?_
  show EX1 W F_r_uninflected _ (Sm x dx F [("self", .val (.ref x))]) _
  walk_at "w"
  refine EV.find_b (t := 574) (T := T_a_5) M (by l_ints) (by kernel_rfl) (by kernel_rfl) l_a_5 m_a_5 (by decide) s_a_5 (by decide +kernel) wf (by lia) (by decide) (by intro env; with_unfolding_all rfl) (fun i B => ?_) (fun B => ?_)
  · walk_at "w"
    have hr := res_ne (by decide +kernel) B.1
    refine ifN (by rw [beq_iff_eq]; exact hr) ?_
    walk_at "w"
    have hB := A.part_inT (by decide +kernel) B
    rw [← back_drop wf hl _ (by have := A.pre_len B.2.1; rw [back_len wf (by lia)] at this; simp only [List.length_reverse] at this; omega), back_full wf hl hcu] at hB
    have wf3 : Wf { F with cu := F.cu - (T_a_5.getD i dAm).s.length } := ⟨by have := wf.c; dsimp only; omega, wf.l, wf.z⟩
    refine EX1.hyph2 M (by l_ints) "lab0" false (by kernel_rfl) (by kernel_rfl) (by decide) wf3 hl (fun Q' hq => TR.notb M (by l_ints) wf3 (by rfl) hq) (fun hh c hc => ?_) (fun hh => ?_)
    · walk_at "w"
      refine ⟨_, .inl rfl, rfl, ?_⟩
      rw [hB, hh] at h
      exact h _ rfl rfl rfl
    · refine ⟨_, .inl rfl, rfl, ?_⟩
      rw [hB, hh] at h
      exact h _ rfl rfl rfl
  · walk_at "w"
    refine ifP (by decide) ?_
    walk_at "w"
    refine ⟨_, .inl rfl, rfl, ?_⟩
    have := A.part_inT0 B
    rw [back_full wf hl hcu] at this
    rw [this] at h
    exact h _ rfl rfl rfl
namespace A
noncomputable def pMerged (R : List Nat) : Bool := T_a_6.any fun m => T_a_7.any fun m' => (m.s.reverse ++ m'.s.reverse).isPrefixOf R
theorem pMerged_iff (R : List Nat) : pMerged R = true ↔ ∃ i j, i < T_a_6.length ∧ j < T_a_7.length ∧ Pre ((T_a_6.getD i dAm).s.reverse) R ∧ Pre ((T_a_7.getD j dAm).s.reverse) (R.drop (T_a_6.getD i dAm).s.length) := by
  unfold pMerged
  rw [List.any_eq_true]
  constructor
  · rintro ⟨m, hm, h⟩
    rw [List.any_eq_true] at h
    obtain ⟨m', hm', h⟩ := h
    obtain ⟨i, hi, rfl⟩ := List.mem_iff_getElem.mp hm
    obtain ⟨j, hj, rfl⟩ := List.mem_iff_getElem.mp hm'
    refine ⟨i, j, hi, hj, ?_⟩
    rw [List.getD_eq_getElem?_getD, List.getElem?_eq_getElem hi, List.getD_eq_getElem?_getD, List.getElem?_eq_getElem hj]
    rw [List.isPrefixOf_iff_prefix] at h
    obtain ⟨t, rfl⟩ := h
    rw [List.append_assoc]
    refine ⟨pre_iff.mpr ⟨_, rfl⟩, pre_iff.mpr ⟨t, ?_⟩⟩
    show List.drop (T_a_6[i]).s.length _ = _
    rw [← List.length_reverse, List.drop_left]
    rfl
  · rintro ⟨i, j, hi, hj, h1, h2⟩
    obtain ⟨t, rfl⟩ := pre_iff.mp h1
    obtain ⟨t2, h2⟩ := pre_iff.mp h2
    rw [← List.length_reverse, List.drop_left] at h2
    subst h2
    rw [List.getD_eq_getElem?_getD, List.getElem?_eq_getElem hi, List.getD_eq_getElem?_getD, List.getElem?_eq_getElem hj]
    refine ⟨_, List.getElem_mem hi, List.any_eq_true.mpr ⟨_, List.getElem_mem hj, ?_⟩⟩
    rw [List.isPrefixOf_iff_prefix]
    exact ⟨t2, by rw [List.append_assoc]; rfl⟩
theorem a6_one : ∀ i < T_a_6.length, ∀ m < T_a_6.length, lcp (T_a_6.getD m dAm).s.reverse (T_a_6.getD i dAm).s.reverse = (T_a_6.getD m dAm).s.reverse.length → m = i := by decide +kernel
end A
theorem ms_r_merged_numeral : MS F_r_merged_numeral := ⟨by kernel_rfl, by kernel_rfl⟩
theorem r_merged_numeral {W : Wx} {x dx : Addr} {F : Fd} {Q : AV → List (Str × AV) → Prop} (wf : Wf F) (hl : F.lb = 0) (hcu : F.cu = F.li)
    (h : ∀ F' : Fd, F'.cur = F.cur → F'.li = F.li → F'.lb = F.lb → Q (.bool (A.pMerged F.cur.reverse)) (FL F')) : CallOK W 282 3 [.val (.ref x)] (some (x, dx)) (FL F) Q := by
  have M := ms_r_merged_numeral
  refine call_r_merged_numeral rfl ?_
  refine EX.cons ?_
  show EX1 W F_r_merged_numeral _ (Sm x dx F [("self", .val (.ref x))]) _
  walk_at "w"
  rw [← back_full wf hl hcu] at h
  refine EV.find_b (t := 584) (T := T_a_6) M (by l_ints) (by kernel_rfl) (by kernel_rfl) l_a_6 m_a_6 (by decide) s_a_6 (by decide +kernel) wf (by omega) (by decide) (by intro env; with_unfolding_all rfl) (fun i B => ?_) (fun B => ?_)
  · walk_at "w"
    have hr := res_ne (by decide +kernel) B.1
    refine ifN (by rw [beq_iff_eq]; exact hr) ?_
    walk_at "w"
    have hle : (T_a_6.getD i dAm).s.length ≤ F.cu := by have := A.pre_len B.2.1; rw [back_len wf (by omega)] at this; simp only [List.length_reverse] at this; omega
    have wf3 : Wf { F with cu := F.cu - (T_a_6.getD i dAm).s.length } := ⟨by have := wf.c; dsimp only; omega, wf.l, wf.z⟩
    have b3 := back_drop wf hl _ hle
    with_reducible apply cmpE
    · with_unfolding_all rfl
    refine EV.find_b (t := 591) (T := T_a_7) M (by l_ints) (by kernel_rfl) (by kernel_rfl) l_a_7 m_a_7 (by decide) s_a_7 (by decide +kernel) wf3 (by show F.lb ≤ _; lia) (by decide) (by intro env; with_unfolding_all rfl) (fun j B2 => ?_) (fun B2 => ?_)
    · walk_at "w"
      have hr2 := res_ne (by decide +kernel) B2.1
      refine ⟨_, .inl rfl, rfl, ?_⟩
      rw [show ((T_a_7.getD j dAm).res != 0) = true from by rw [bne_iff_ne]; exact hr2]
      rw [b3] at B2
      rw [(A.pMerged_iff _).mpr ⟨i, j, B.1, B2.1, B.2.1, B2.2.1⟩] at h
      exact h _ rfl rfl rfl
    · walk_at "w"
      refine ⟨_, .inl rfl, rfl, ?_⟩
      rw [b3] at B2
      have hf : A.pMerged (back F) = false := by
        rw [Bool.eq_false_iff]
        intro e
        obtain ⟨m, j, hm, hj, h1, h2⟩ := (A.pMerged_iff _).mp e
        have := B.2.2 m hm h1
        have : A.Pre ((T_a_6.getD m dAm).s.reverse) ((T_a_6.getD i dAm).s.reverse) := A.pre_pre h1 B.2.1 this
        obtain rfl := A.a6_one i B.1 m hm this
        exact B2 j hj h2
      rw [hf] at h
      exact h _ rfl rfl rfl
  · walk_at "w"
    refine ifP (by decide) ?_
    walk_at "w"
    refine ⟨_, .inl rfl, rfl, ?_⟩
    have hf : A.pMerged (back F) = false := by
      rw [Bool.eq_false_iff]
      intro e
      obtain ⟨m, j, hm, hj, h1, h2⟩ := (A.pMerged_iff _).mp e
      exact B m hm h1
    rw [hf] at h
    exact h _ rfl rfl rfl
end
noncomputable section
open PySem PySem.W PySem.Calls PyProof.Rows Builtin
open H (Sets fEnd KF kf_in QV looseV PW)

section
variable {W : Wx} {fn : Fn} {x dx : Addr} {F : Fd} {loc : List (Str × AV)} {np p : Pos}
set_option tactic.hygienic true in
theorem EV.in_grp {e : Expr} {ap : Pos} {a : AV} {f : Nat → Bool} {Q : AV → St → Prop} (G : Grp W a f) (M : MS fn) (hs : loc.lookup ("self" : Str) = some (.val (.ref x))) (wf : Wf F) (hrm : 0 < fn.rm) (he : MthEq np "in_grouping_b" ap p [e]) (hst : ∀ env, starEach [e] env = [(false, eval e env)])
    (hev : ∀ Q' : AV → St → Prop, Q' a (Sm x dx F loc) → EV W fn e (Sm x dx F loc) Q') (h : if F.lb < F.cu ∧ f (F.cur.getD (F.cu - 1) 0) = true then Q (.bool true) (Sm x dx { F with cu := F.cu - 1 } loc) else Q (.bool false) (Sm x dx F loc)) : EV W fn (.Call (.Attribute (.Name "self" np) "in_grouping_b" ap) [e] [] p) (Sm x dx F loc) Q := by
  refine EV.meth (f := 77) (rm := 0) (EV.self M hs ⟨_, _, rfl, rfl, rfl, AR.cons (hev _ (AR.nil (in_grouping_b G wf ?_))) hst⟩) (by kernel_rfl) (by kernel_rfl) (by kernel_rfl) hrm plS he (hst := hst)
  split
  · rename_i hc; rw [if_pos hc] at h; exact h
  · rename_i hc; rw [if_neg hc] at h; exact h
theorem EV.go_grp {e : Expr} {ap : Pos} {a : AV} {f : Nat → Bool} {Q : AV → St → Prop} (G : Grp W a f) (M : MS fn) (hs : loc.lookup ("self" : Str) = some (.val (.ref x))) (wf : Wf F) (hrm : 0 < fn.rm) (he : MthEq np "go_out_grouping_b" ap p [e]) (hst : ∀ env, starEach [e] env = [(false, eval e env)])
    (hev : ∀ Q' : AV → St → Prop, Q' a (Sm x dx F loc) → EV W fn e (Sm x dx F loc) Q') (h : Q (.bool (decide (F.lb < goOut f F.cur F.lb F.cu))) (Sm x dx { F with cu := goOut f F.cur F.lb F.cu } loc)) : EV W fn (.Call (.Attribute (.Name "self" np) "go_out_grouping_b" ap) [e] [] p) (Sm x dx F loc) Q :=
  EV.meth (f := 112) (rm := 0) (EV.self M hs ⟨_, _, rfl, rfl, rfl, AR.cons (hev _ (AR.nil (go_out_grouping_b G wf h))) hst⟩) (by kernel_rfl) (by kernel_rfl) (by kernel_rfl) hrm plS he (hst := hst)
end
namespace A
noncomputable def corrHead (R : List Nat) : Option (List Nat × List Nat) :=
  if (offc 110 R).head? = some 101 then some ((offc 110 R).tail, offc 110 R)
  else match offc 106 (offc 110 R) with
    | [] => none
    | c :: r => if isAou c then some (r, c :: r) else none
noncomputable def pCorr (R : List Nat) : Option (List Nat) := match corrHead R with
  | none => none
  | some (R2, b) => match R2 with
    | [] => none
    | c :: R3 => if c = 105 then (if inT T_a_8 (part R3) || (part R3).isEmpty then some b else none) else none
end A
theorem ms_r_correlative : MS F_r_correlative := ⟨by kernel_rfl, by kernel_rfl⟩
set_option maxHeartbeats 1000000 in
theorem r_correlative {W : Wx} {x dx : Addr} {F : Fd} {Q : AV → List (Str × AV) → Prop} (wf : Wf F) (hl : F.lb = 0) (hcu : F.cu = F.li) (h : RQ F (A.pCorr F.cur.reverse) Q) : CallOK W 289 3 [.val (.ref x)] (some (x, dx)) (FL F) Q := by
  have M := ms_r_correlative
  refine call_r_correlative rfl ?_
  refine EX.cons ?_
  show EX1 W F_r_correlative _ (Sm x dx F [("self", .val (.ref x))]) _
  walk_at "w"
  rw [← back_full wf hl hcu] at h
  obtain ⟨F0, hF0⟩ : ∃ F0 : Fd, F0 = { F with ke := F.cu, br := F.cu } := ⟨_, rfl⟩
  have wf0 : Wf F0 := by rw [hF0]; exact ⟨wf.c, wf.l, wf.z⟩
  have hl0 : F0.lb = 0 := by rw [hF0]; exact hl
  have b0 : back F0 = back F := by rw [hF0]; rfl
  have c0 : F0.cur = F.cur ∧ F0.li = F.li ∧ F0.ke = F.cu ∧ F0.cu = F.cu := by rw [hF0]; exact ⟨rfl, rfl, rfl, rfl⟩
  rw [← hF0]
  let Pq1 : St → Prop := fun σ' => ∃ F' l R2 b, σ' = Sm x dx F' l ∧ l.lookup ("self" : Str) = some (.val (.ref x)) ∧ l.lookup ("v_1" : Str) = some (.int ((F.li : Int) - F.cu)) ∧ A.corrHead (back F) = some (R2, b) ∧ back F' = R2 ∧ Wf F' ∧ F'.lb = 0 ∧
    F'.cur = F.cur ∧ F'.li = F.li ∧ F'.ke = F.cu ∧ F'.br ≤ F.cu ∧ F.cur.take F'.br = b.reverse
  refine EX1.cut2 Pq1 ?_ ?_
  · refine EX1.once (TR.true_ ?_)
    refine ifP rfl ?_
    walk_at "w"
    refine tr0 (by kernel_rfl) (by kernel_rfl) ?_
    walk_at "w"
    refine EX1.opt (ch := 110) (v := "v_3") M (by l_ints) (by kernel_rfl) (by decide) "lab1" true (by kernel_rfl) (by kernel_rfl) (by decide) (by l_ints) (fun Q' hq => TR.notb M (by l_ints) wf0 (by rfl) hq) ?_
    show EX W F_r_correlative _ (Sm x dx (optF F0 110) _) _
    have wf1 := optF_wf wf0 110
    have b1 := optF_back wf0 hl0 110
    obtain ⟨F1, hF1⟩ : ∃ F1, F1 = optF F0 110 := ⟨_, rfl⟩
    rw [← hF1] at wf1 b1 ⊢
    have c1 : F1.cur = F.cur ∧ F1.li = F.li ∧ F1.ke = F.cu ∧ F1.lb = 0 := by rw [hF1]; exact ⟨c0.1, c0.2.1, c0.2.2.1, hl0⟩
    walk_at "w"
    obtain ⟨F2, hF2⟩ : ∃ F2 : Fd, F2 = { F1 with br := F1.cu } := ⟨_, rfl⟩
    have wf2 : Wf F2 := by rw [hF2]; exact ⟨wf1.c, wf1.l, wf1.z⟩
    have b2 : back F2 = A.offc 110 (back F) := by
      have : back F2 = back F1 := by rw [hF2]; rfl
      rw [this, b1, b0]
    have c2 : F2.cur = F.cur ∧ F2.li = F.li ∧ F2.ke = F.cu ∧ F2.lb = 0 := by rw [hF2]; exact c1
    have hbr2 : F2.br = F2.cu := by rw [hF2]
    rw [← hF2]
    have w2 := wf2.c
    have w0 := wf.c
    refine TR.notb (ch := 101) M (by l_ints) wf2 (by rfl) ?_
    rw [atb_head wf2 c2.2.2.2]
    cases hh : ((back F2).head? == some 101)
    · -- the second road
      refine ifP (by decide) ?_
      walk_at "w"
      refine ⟨rfl, ?_⟩
      walk_at "w"
      refine ⟨F.cu, _, by congr 1; rw [c2.2.1, c0.2.1, c0.2.2.2]; lia, rfl, ?_⟩
      obtain ⟨G0, hG0⟩ : ∃ G0 : Fd, G0 = { F2 with cu := F.cu } := ⟨_, rfl⟩
      rw [← hG0]
      have wg0 : Wf G0 := by rw [hG0]; exact ⟨by dsimp only; rw [c2.2.1]; exact wf.c, wf2.l, wf2.z⟩
      have d0 : G0.cur = F.cur ∧ G0.li = F.li ∧ G0.ke = F.cu ∧ G0.lb = 0 := by rw [hG0]; exact c2
      have bg0 : back G0 = back F := by rw [hG0]; unfold back; dsimp only; rw [c2.1, c2.2.2.2, hl]
      walk_at "w"
      refine EX1.opt (ch := 110) (v := "v_4") M (by l_ints) (by kernel_rfl) (by decide) "lab0" false (by kernel_rfl) (by kernel_rfl) (by decide) (by l_ints) (fun Q' hq => TR.notb M (by l_ints) wg0 (by rfl) hq) ?_
      show EX W F_r_correlative _ (Sm x dx (optF G0 110) _) _
      have wg1 := optF_wf wg0 110
      have bg1 := optF_back wg0 d0.2.2.2 110
      obtain ⟨G1, hG1⟩ : ∃ G1, G1 = optF G0 110 := ⟨_, rfl⟩
      rw [← hG1] at wg1 bg1 ⊢
      have d1 : G1.cur = F.cur ∧ G1.li = F.li ∧ G1.ke = F.cu ∧ G1.lb = 0 := by rw [hG1]; exact d0
      walk_at "w"
      refine EX1.opt (ch := 106) (v := "v_5") M (by l_ints) (by kernel_rfl) (by decide) "lab0" false (by kernel_rfl) (by kernel_rfl) (by decide) (by l_ints) (fun Q' hq => TR.notb M (by l_ints) wg1 (by rfl) hq) ?_
      show EX W F_r_correlative _ (Sm x dx (optF G1 106) _) _
      have wg2 := optF_wf wg1 106
      have bg2 := optF_back wg1 d1.2.2.2 106
      obtain ⟨G2, hG2⟩ : ∃ G2, G2 = optF G1 106 := ⟨_, rfl⟩
      rw [← hG2] at wg2 bg2 ⊢
      have d2 : G2.cur = F.cur ∧ G2.li = F.li ∧ G2.ke = F.cu ∧ G2.lb = 0 := by rw [hG2]; exact d1
      walk_at "w"
      obtain ⟨G3, hG3⟩ : ∃ G3 : Fd, G3 = { G2 with br := G2.cu } := ⟨_, rfl⟩
      have wg3 : Wf G3 := by rw [hG3]; exact ⟨wg2.c, wg2.l, wg2.z⟩
      have d3 : G3.cur = F.cur ∧ G3.li = F.li ∧ G3.ke = F.cu ∧ G3.lb = 0 := by rw [hG3]; exact d2
      have b3 : back G3 = A.offc 106 (A.offc 110 (back F)) := by
        have : back G3 = back G2 := by rw [hG3]; rfl
        rw [this, bg2, bg1, bg0]
      have hbr3 : G3.br = G3.cu := by rw [hG3]
      have w3 := wg3.c
      rw [← hG3]
      have hne : ¬ (A.offc 110 (back F)).head? = some 101 := by
        rw [← b2]
        intro e
        rw [e] at hh
        cases hh
      refine EV.in_grp (f := isAou) grp_aou M (by l_ints) wg3 (by decide) (by intro env; with_unfolding_all rfl) (by intro env; rfl) (fun Q' hq => EV.clsstr (x := "aou") (t := 498) (EV.glob g_esp ⟨rfl, hq⟩ M.kind (by kernel_rfl) (by decide)) (by kernel_rfl)) ?_
      by_cases hg : G3.lb < G3.cu ∧ isAou (G3.cur.getD (G3.cu - 1) 0) = true
      · refine ifP hg ?_
        walk_at "w"
        refine ifN (by decide) ?_
        walk_at "w"
        refine ⟨_, _, (back G3).tail, back G3, rfl, by l_ints, by l_ints, ?_, ?_, ⟨by dsimp only; lia, wg3.l, wg3.z⟩, d3.2.2.2, d3.1, d3.2.1, d3.2.2.1, ?_, ?_⟩
        · have hg0 := back_get (m := 0) wg3 (by lia) (by lia)
          rw [Nat.sub_zero] at hg0
          unfold A.corrHead
          rw [if_neg hne, ← b3]
          cases hb : back G3 with
          | nil => exact absurd ((back_nil wg3 d3.2.2.2).mp hb) (by lia)
          | cons c r =>
            rw [hb] at hg0
            have : isAou c = true := by rw [← hg.2, ← hg0]; rfl
            show (if isAou c = true then some (r, c :: r) else none) = _
            rw [if_pos this]
            rfl
        · rw [← List.drop_one]
          exact back_drop wg3 d3.2.2.2 1 (by lia)
        · show G3.br ≤ _
          have := d3.2.1
          lia
        · rw [back_rev d3.2.2.2, d3.1]
          show F.cur.take G3.br = _
          rw [hbr3]
      · refine ifN hg ?_
        walk_at "w"
        refine ifP (by decide) ?_
        walk_at "w"
        refine ⟨_, .inl rfl, rfl, (h G3).1 ?_ d3.1 d3.2.1 (by rw [d3.2.2.2, hl])⟩
        have : A.corrHead (back F) = none := by
          unfold A.corrHead
          rw [if_neg hne, ← b3]
          cases hb : back G3 with
          | nil => rfl
          | cons c r =>
            have hc0 : 0 < G3.cu := by
              rcases Nat.eq_zero_or_pos G3.cu with e | e
              · have := (back_nil wg3 d3.2.2.2).mpr e; rw [hb] at this; cases this
              · exact e
            have hg0 := back_get (m := 0) wg3 (by lia) (by lia)
            rw [Nat.sub_zero, hb] at hg0
            have : isAou c = false := by
              rw [Bool.eq_false_iff]
              intro e
              refine hg ⟨by lia, ?_⟩
              rw [← hg0]; exact e
            show (if isAou c = true then some (r, c :: r) else none) = _
            rw [if_neg (by rw [this]; decide)]
        unfold A.pCorr
        rw [this]
    · refine ifN (by decide) ?_
      have hc0 : 0 < F2.cu := by
        rcases Nat.eq_zero_or_pos F2.cu with e | e
        · have := (back_nil wf2 c2.2.2.2).mpr e; rw [this] at hh; cases hh
        · exact e
      walk_at "w"
      refine EX1.dec M (by l_ints) hc0 ?_
      walk_at "w"
      refine ⟨_, _, (back F2).tail, back F2, rfl, by l_ints, by l_ints, ?_, ?_, ⟨by dsimp only; lia, wf2.l, wf2.z⟩, c2.2.2.2, c2.1, c2.2.1, c2.2.2.1, ?_, ?_⟩
      · unfold A.corrHead
        rw [if_pos (by rw [← b2]; simpa using hh), b2]
      · rw [← List.drop_one]
        exact back_drop wf2 c2.2.2.2 1 (by assumption)
      · show F2.br ≤ _
        have := c2.2.1
        lia
      · rw [back_rev c2.2.2.2, c2.1]
        show F.cur.take F2.br = _
        rw [hbr2]
  · rintro σ' ⟨F4, l, R2, b, rfl, l1, l2, e1, e2, wf4, hl4, c4, i4, k4, r4, t4⟩
    try dsimp only
    have w4 := wf4.c
    refine EX.cons (EX1.if_ (TR.notb (ch := 105) M l1 wf4 (by rfl) ?_))
    rw [atb_head wf4 hl4, e2]
    cases hh : (R2.head? == some 105)
    · refine ifP (by decide) ?_
      walk_at "w"
      refine ⟨_, .inl rfl, rfl, (h F4).1 ?_ c4 i4 (by rw [hl4, hl])⟩
      unfold A.pCorr
      rw [e1]
      dsimp only
      cases R2 with
      | nil => rfl
      | cons c r =>
        dsimp only
        rw [if_neg (fun e => by subst e; simp at hh)]
    · refine ifN (by decide) ?_
      have hc0 : 0 < F4.cu := by
        rcases Nat.eq_zero_or_pos F4.cu with e | e
        · have := (back_nil wf4 hl4).mpr e; rw [e2] at this; rw [this] at hh; cases hh
        · exact e
      walk_at "w"
      refine EX1.dec M l1 hc0 ?_
      obtain ⟨F5, hF5⟩ : ∃ F5 : Fd, F5 = { F4 with cu := F4.cu - 1 } := ⟨_, rfl⟩
      have wf5 : Wf F5 := by rw [hF5]; exact ⟨by dsimp only; lia, wf4.l, wf4.z⟩
      have hl5 : F5.lb = 0 := by rw [hF5]; exact hl4
      have b5 : back F5 = R2.tail := by rw [hF5, back_drop wf4 hl4 1 (by assumption), e2, List.drop_one]
      have c5 : F5.cur = F.cur ∧ F5.li = F.li ∧ F5.ke = F.cu ∧ F5.br = F4.br := by rw [hF5]; exact ⟨c4, i4, k4, rfl⟩
      rw [← hF5]
      walk_at "w"
      let Pq2 : St → Prop := fun σ' => ∃ F6 : Fd, σ' = Sm x dx F6 ((("v_6" : Str), AV.int ((F5.li : Int) - F5.cu)) :: l) ∧ A.hy (back F6) = (A.inT T_a_8 (A.part (back F5)) || (A.part (back F5)).isEmpty) ∧ Wf F6 ∧ F6.lb = 0 ∧ F6.cur = F.cur ∧ F6.li = F.li ∧ F6.ke = F.cu ∧ F6.br = F4.br
      refine EX1.cut2 Pq2 ?_ ?_
      · refine tr0 (by kernel_rfl) (by kernel_rfl) ?_
        walk_at "w"
        refine EV.find_b (t := 613) (T := T_a_8) M (by l_ints) (by kernel_rfl) (by kernel_rfl) l_a_8 m_a_8 (by decide) s_a_8 (by decide +kernel) wf5 (by lia) (by decide) (by intro env; with_unfolding_all rfl) (fun i B => ?_) (fun B => ?_)
        · walk_at "w"
          have hr := res_ne (by decide +kernel) B.1
          refine ifN (by rw [beq_iff_eq]; exact hr) ?_
          walk_at "w"
          have hle : (T_a_8.getD i dAm).s.length ≤ F5.cu := by have := A.pre_len B.2.1; rw [back_len wf5 (by lia)] at this; simp only [List.length_reverse] at this; lia
          have w5 := wf5.c
          refine ⟨?_, ⟨by dsimp only; lia, wf5.l, wf5.z⟩, hl5, c5.1, c5.2.1, c5.2.2.1, c5.2.2.2⟩
          rw [back_drop wf5 hl5 _ hle, A.part_inT (by decide +kernel) B]
          cases hq : A.hy ((back F5).drop (T_a_8.getD i dAm).s.length)
          · have := A.part_nil_iff (r := back F5)
            cases hp : (A.part (back F5)).isEmpty
            · rfl
            · exfalso
              have e := List.isEmpty_iff.mp hp
              have k := A.part_inT (T := T_a_8) (by decide +kernel) B
              obtain ⟨r, hr2⟩ := A.pre_iff.mp B.2.1
              rw [hr2, A.part_app (A.noHy_at (by decide +kernel) i B.1)] at e
              have : ∀ i < T_a_8.length, (T_a_8.getD i dAm).s.reverse ≠ [] := by decide +kernel
              exact this i B.1 (List.append_eq_nil_iff.mp e).1
          · rfl
        · walk_at "w"
          refine ifP (by decide) ?_
          walk_at "w"
          refine ⟨F5.cu, F5, by congr 1; lia, rfl, ?_⟩
          walk_at "w"
          refine ⟨rfl, F5, rfl, ?_, wf5, hl5, c5.1, c5.2.1, c5.2.2.1, c5.2.2.2⟩
          rw [A.part_inT0 B, Bool.false_or, Bool.eq_iff_iff, List.isEmpty_iff]
          exact A.part_nil_iff.symm
      · have pc : (A.inT T_a_8 (A.part (back F5)) || (A.part (back F5)).isEmpty) = true → A.pCorr (back F) = some b := by
          intro q
          unfold A.pCorr
          rw [e1]
          cases R2 with
          | nil => cases hh
          | cons c0 r =>
            have : c0 = 105 := by simpa using hh
            dsimp only
            rw [if_pos this]
            have b5' : back F5 = r := b5
            rw [← b5', if_pos q]
        have pn : (A.inT T_a_8 (A.part (back F5)) || (A.part (back F5)).isEmpty) = false → A.pCorr (back F) = none := by
          intro q
          unfold A.pCorr
          rw [e1]
          cases R2 with
          | nil => cases hh
          | cons c0 r =>
            have : c0 = 105 := by simpa using hh
            dsimp only
            rw [if_pos this]
            have b5' : back F5 = r := b5
            rw [← b5', if_neg (by rw [q]; decide)]
        rintro σ' ⟨F6, rfl, hy6, wf6, hl6, c6, i6, k6, r6⟩
        walk_at "w"
        refine EX1.hyph2 M (lk_skip (by kernel_rfl) l1) "lab0" false (by kernel_rfl) (by kernel_rfl) (by decide) wf6 hl6 (fun Q' hq => TR.notb M (lk_skip (by kernel_rfl) l1) wf6 (by rfl) hq) (fun hh c hc => ?_) (fun hh => ?_)
        · walk_at "w"
          refine ⟨F.cu, { F6 with cu := c }, by congr 1; rw [i6]; lia, rfl, ?_⟩
          have w0 := wf.c
          have wl := wf.l
          refine EX.cons (EX1.expr (EV.slice_del M (lk_skip (by kernel_rfl) l1) ⟨by dsimp only; lia, wf6.l, wf6.z⟩ (by dsimp only; rw [r6, k6]; exact r4) (by dsimp only; lia) (by decide) (by intro env; with_unfolding_all rfl) ?_) (by rfl) (by intro env; rfl))
          walk_at "w"
          refine ⟨_, .inl rfl, rfl, (h _).2 b ?_ ?_⟩
          · exact pc (hy6.symm.trans hh)
          · refine (repl_cut _ _ _ (by dsimp only; rw [c6, k6]; lia)).trans ?_
            dsimp only
            rw [c6, r6, t4]
        · refine ⟨_, .inl rfl, rfl, (h _).1 ?_ c6 i6 (by rw [hl6, hl])⟩
          exact pn (hy6.symm.trans hh)
end
noncomputable section
open PySem PySem.W PySem.Calls PyProof.Rows Builtin
open H (Sets fEnd KF kf_in QV looseV PW)
namespace A
noncomputable def cnt (f : Nat → Bool) (cur : List Nat) (c : Nat) : Nat := ((cur.take c).filter f).length
theorem cnt_succ (f : Nat → Bool) (cur : List Nat) (c : Nat) (h : c < cur.length) : cnt f cur (c + 1) = cnt f cur c + if f (cur.getD c 0) then 1 else 0 := by
  unfold cnt
  rw [List.take_succ, List.filter_append, List.length_append, List.getD_eq_getElem?_getD, List.getElem?_eq_getElem h]
  congr 1
  show (List.filter f [cur[c]]).length = _
  by_cases hf : f cur[c] = true
  · rw [List.filter_cons_of_pos hf]; exact (if_pos hf).symm
  · rw [List.filter_cons_of_neg hf]; exact (if_neg hf).symm
theorem cnt_zero (f : Nat → Bool) (cur : List Nat) : cnt f cur 0 = 0 := rfl
theorem cnt_all (f : Nat → Bool) (cur : List Nat) : cnt f cur cur.length = (cur.reverse.filter f).length := by
  unfold cnt
  rw [List.take_length, List.filter_reverse, List.length_reverse]
theorem goOut_cnt (f : Nat → Bool) (cur : List Nat) : ∀ c, c ≤ cur.length → goOut f cur 0 c ≤ c ∧ (goOut f cur 0 c = 0 → cnt f cur c = 0) ∧ (∀ d, goOut f cur 0 c = d + 1 → cnt f cur c = cnt f cur d + 1)
  | 0, _ => ⟨Nat.le_refl _, fun _ => rfl, fun d h => by cases h⟩
  | c + 1, h => by
    obtain ⟨i0, i1, i2⟩ := goOut_cnt f cur c (by exact Nat.le_of_lt ‹_›)
    rw [goOut_succ, if_neg (by lia), cnt_succ f cur c (by assumption)]
    by_cases hf : f (cur.getD c 0) = true
    · rw [if_pos hf, if_pos hf]
      exact ⟨Nat.le_refl _, fun e => by lia, fun d e => by rw [Nat.succ.inj e]⟩
    · rw [if_neg hf, if_neg hf]
      exact ⟨by lia, fun e => by rw [i1 e], fun d e => by rw [i2 d e]⟩
noncomputable def hyIn (R : List Nat) : Bool := !(R.drop ((part R).length + 1)).isEmpty
noncomputable def pLong (R : List Nat) : Bool := decide (2 ≤ (R.filter isVow).length) || hyIn R || R.any isDig
theorem hyIn_nil : hyIn [] = false := rfl
theorem hyIn_cons (c : Nat) (r : List Nat) : hyIn (c :: r) = if c = 45 then !r.isEmpty else hyIn r := by
  unfold hyIn part
  by_cases h : c = 45
  · subst h; simp
  · rw [if_neg h, List.takeWhile_cons, if_pos (by simpa using h)]
    rfl
end A
set_option tactic.hygienic true in
theorem nm_tuple {W : Wx} {fn : Fn} {σ : St} {c1 c2 : Pos} {k1 k2 k : Nat} {p : Pos} {Q : St → Prop} (h : Q σ) :
    IT W fn (.Tuple [.Constant (.int 0) k1 c1, .Constant (.int 0) k2 c2] k p) σ 2 (fun _ => .int 0) Q := by
  refine ⟨fun g A S P E hg I k' => ?_⟩
  refine wpAny_Tuple ?_
  refine args_cons (wpAny_Constant_int (k := k1) (pos := c1) (args_cons (wpAny_Constant_int (k := k2) (pos := c2) (args_nil ?_)) rfl)) rfl
  refine ⟨by show 2 ≤ sizeLine; rw [sizeLine_eq]; lia, ?_⟩
  obtain ⟨t, rfl⟩ : ∃ t, t = S.heap.objs.size := ⟨_, rfl⟩
  have ht : (S.heap.push { cls := .type "tuple", data := .seq (List.toArray [Value.int 0 S.toks, Value.int 0 (S.toks + 1)]) }).IsTuple S.heap.objs.size (List.toArray [Value.int 0 S.toks, Value.int 0 (S.toks + 1)]) := ⟨_, Heap.get?_push_size _ rfl, rfl, _, rfl⟩
  refine wpAny_pyIter_tuple ht ?_
  have hlt : S.heap.objs.size < (S.heap.push { cls := .type "tuple", data := .seq (List.toArray [Value.int 0 S.toks, Value.int 0 (S.toks + 1)]) }).objs.size := by rw [Heap.size_push]; lia
  have I2 : In W g A σ { S with heap := S.heap.push { cls := .type "tuple", data := .seq (List.toArray [Value.int 0 S.toks, Value.int 0 (S.toks + 1)]) }, toks := S.toks + 1 + 1 } := I.grows (fun b o e => Heap.get?_push_of_some _ e) rfl rfl
  have Wk := Walks.tuple (prog := PW) (w := W.w) I2.hd (S.heap.push { cls := .type "tuple", data := .seq (List.toArray [Value.int 0 S.toks, Value.int 0 (S.toks + 1)]) }).objs.size S.heap.objs.size (Nat.ne_of_lt hlt) (List.toArray [Value.int 0 S.toks, Value.int 0 (S.toks + 1)])
  have up : ∀ o b o', (S.heap.push { cls := .type "tuple", data := .seq (List.toArray [Value.int 0 S.toks, Value.int 0 (S.toks + 1)]) }).get? b = some o' → ((S.heap.push { cls := .type "tuple", data := .seq (List.toArray [Value.int 0 S.toks, Value.int 0 (S.toks + 1)]) }).push o).get? b = some o' := fun o b o' e => Heap.get?_push_of_some _ e
  refine k' _ _ _ _ _ σ h (I2.grows (fun b o e => up _ b o e) rfl rfl) Wk ⟨⟨_, Heap.get?_push_size _ rfl, rfl, rfl⟩, ?_⟩ (fun i h x => let ⟨o, ho, _, hd⟩ := x.1; ⟨o, _, ho, hd⟩) (fun i v h hi hp => ?_) I2.newB (fun b hb hne => ?_)
  · obtain ⟨o, a1, a2⟩ := ht
    exact ⟨o, up _ _ _ a1, a2⟩
  · match i, hi with
    | 0, _ => exact ⟨_, (Option.some.inj hp).symm⟩
    | 1, _ => exact ⟨_, (Option.some.inj hp).symm⟩
  · rcases List.mem_cons.mp hb with rfl | hb
    · exact absurd rfl hne
    · obtain rfl := List.mem_singleton.mp hb
      refine ⟨_, up _ _ _ (Heap.get?_push_size _ rfl), .inr ⟨fun es n q => (nomatch q), fun m hm => ?_⟩⟩
      intro q
      unfold mlAt at q
      obtain ⟨m', hm', hlo, hml⟩ := I.lo
      have hmm : m = m' := funext fun y => by
        obtain ⟨oL, es, ep, b1, b2, b3⟩ := hm'
        exact hm.agree ⟨oL, es, ep, up _ _ _ (Heap.get?_push_of_some _ b1), b2, b3⟩ y
      subst hmm
      unfold MlR at hml
      split at q
      · cases q
      · rename_i x ls he
        rw [he] at hml
        obtain ⟨a, vs, d1, ⟨od, d2, _⟩, _⟩ := hml
        rw [d1] at q
        obtain rfl := List.mem_singleton.mp q
        exact absurd (Heap.lt_size d2) (Nat.lt_irrefl _)
theorem ms_r_long_word : MS F_r_long_word := ⟨by kernel_rfl, by kernel_rfl⟩
theorem cls_v {W : Wx} : findCls W.K (.ref 674) (.type "type") "g_vowel" = some (.val (.ref 232)) := by
  obtain ⟨es, n, t, e⟩ := W.sets.1.shape
  show findCls (KF W.w.params W.v W.d) _ _ _ = _
  rw [e]
  kernel_rfl
theorem cls_d {W : Wx} : findCls W.K (.ref 674) (.type "type") "g_digit" = some (.val (.ref 233)) := by
  obtain ⟨es, n, t, e⟩ := W.sets.2.shape
  show findCls (KF W.w.params W.v W.d) _ _ _ = _
  rw [e]
  kernel_rfl
section
variable {W : Wx} {fn : Fn} {x dx : Addr} {F : Fd} {loc : List (Str × AV)} {np p : Pos}
theorem EV.g_v {np2 p2 : Pos} (M : MS fn) (hx : fn.sc.names.lookup ("EsperantoStemmer" : Str) = some .globalImplicit) (Q' : AV → St → Prop) (hq : Q' (.val (.ref 232)) (Sm x dx F loc)) : EV W fn (.Attribute (.Name "EsperantoStemmer" np2) "g_vowel" p2) (Sm x dx F loc) Q' :=
  EV.clsattr (EV.glob g_esp ⟨rfl, hq⟩ M.kind hx (by decide)) cls_v rfl
theorem EV.g_d {np2 p2 : Pos} (M : MS fn) (hx : fn.sc.names.lookup ("EsperantoStemmer" : Str) = some .globalImplicit) (Q' : AV → St → Prop) (hq : Q' (.val (.ref 233)) (Sm x dx F loc)) : EV W fn (.Attribute (.Name "EsperantoStemmer" np2) "g_digit" p2) (Sm x dx F loc) Q' :=
  EV.clsattr (EV.glob g_esp ⟨rfl, hq⟩ M.kind hx (by decide)) cls_d rfl
end
set_option maxHeartbeats 1000000 in
theorem r_long_word {W : Wx} {x dx : Addr} {F : Fd} {Q : AV → List (Str × AV) → Prop} (wf : Wf F) (hl : F.lb = 0) (hcu : F.cu = F.li)
    (h : ∀ F' : Fd, F'.cur = F.cur → F'.li = F.li → F'.lb = F.lb → F'.ke = F.ke → F'.br = F.br → Q (.bool (A.pLong F.cur.reverse)) (FL F')) : CallOK W 296 3 [.val (.ref x)] (some (x, dx)) (FL F) Q := by
  have M := ms_r_long_word
  have w1 := wf.c
  have w2 := wf.l
  have w3 := wf.z
  refine call_r_long_word rfl ?_
  refine EX.cons ?_
  show EX1 W F_r_long_word _ (Sm x dx F [("self", .val (.ref x))]) _
  have hcnt : ∀ f, A.cnt f F.cur F.cu = (F.cur.reverse.filter f).length := fun f => by rw [show F.cu = F.cur.length by lia, A.cnt_all]
  have yes : A.pLong F.cur.reverse = true → ∀ d, Q (.bool true) (FL { F with cu := d }) := fun e d => by
    have := h { F with cu := d } rfl rfl rfl rfl rfl
    rw [e] at this; exact this
  refine EX1.once (TR.true_ ?_)
  refine ifP rfl ?_
  walk_at "w"
  refine EX1.cut2 (fun σ' => ∃ d l, σ' = Sm x dx { F with cu := d } l ∧ l.lookup ("self" : Str) = some (.val (.ref x)) ∧ l.lookup ("v_1" : Str) = some (.int ((F.li : Int) - F.cu)) ∧ A.cnt isVow F.cur F.cu < 2) ?_ ?_
  · refine tr0 (by kernel_rfl) (by kernel_rfl) ?_
    refine EX.cons ?_
    refine EX1.for_ (n := 2) (vals := fun _ => .int 0) (fun i σ => ∃ d l, σ = Sm x dx { F with cu := d } l ∧ l.lookup ("self" : Str) = some (.val (.ref x)) ∧ l.lookup ("v_1" : Str) = some (.int ((F.li : Int) - F.cu)) ∧ d ≤ F.cu ∧ A.cnt isVow F.cur F.cu = A.cnt isVow F.cur d + i)
      (nm_tuple ⟨F.cu, _, rfl, by l_ints, by l_ints, Nat.le_refl _, rfl⟩) ?_ ?_
    · rintro i σ hi ⟨d, l, rfl, l1, l2, hd, hc⟩
      refine ⟨fun _ q => (nomatch q), ?_⟩
      show EX W _ _ (Sm x dx { F with cu := d } (("_", .int 0) :: l)) _
      have l1' : ((("_" : Str), AV.int 0) :: l).lookup ("self" : Str) = some (.val (.ref x)) := lk_skip (by kernel_rfl) l1
      have l2' : ((("_" : Str), AV.int 0) :: l).lookup ("v_1" : Str) = some (.int ((F.li : Int) - F.cu)) := lk_skip (by kernel_rfl) l2
      have wfd : Wf { F with cu := d } := ⟨by dsimp only; exact Nat.le_trans ‹_› ‹_›, wf.l, wf.z⟩
      walk_at "w"
      obtain ⟨g0, g1, g2⟩ := A.goOut_cnt isVow F.cur d (by lia)
      refine EV.go_grp (f := isVow) grp_v M l1' wfd (by decide) (by intro env; with_unfolding_all rfl) (by intro env; rfl) (EV.g_v M (by kernel_rfl)) ?_
      dsimp only
      rw [hl]
      cases hg : goOut isVow F.cur 0 d with
      | zero =>
        rw [decide_eq_false (by lia)]
        walk_at "w"
        refine ifP (by decide) ?_
        walk_at "w"
        refine ⟨rfl, 0, _, rfl, l1', l2', ?_⟩
        have := g1 hg
        lia
      | succ e =>
        rw [decide_eq_true (by exact Nat.succ_pos _)]
        walk_at "w"
        refine ifN (by decide) ?_
        walk_at "w"
        refine EX1.dec M l1' (by dsimp only; exact Nat.succ_pos _) ?_
        walk_at "w"
        have := g2 e hg
        exact ⟨e, _, rfl, l1', l2', by lia, by lia⟩
    · rintro σ ⟨d, l, rfl, l1, l2, hd, hc⟩
      walk_at "w"
      refine ⟨_, .inl rfl, rfl, yes ?_ d⟩
      unfold A.pLong
      rw [← hcnt isVow, decide_eq_true (by lia)]
      rfl
  · rintro σ ⟨d, l, rfl, l1, l2, hv⟩
    try dsimp only
    have hvf : decide (2 ≤ (F.cur.reverse.filter isVow).length) = false := by rw [← hcnt]; exact decide_eq_false (by lia)
    refine EX.cons (EX1.backR (c := F.cu) M l1 (by kernel_rfl) (by decide) l2 ?_)
    show EX W _ _ (Sm x dx F l) _
    refine EX.cons ?_
    refine EX1.cut2 (fun σ' => ∃ d l, σ' = Sm x dx { F with cu := d } l ∧ l.lookup ("self" : Str) = some (.val (.ref x)) ∧ l.lookup ("v_1" : Str) = some (.int ((F.li : Int) - F.cu)) ∧ A.hyIn F.cur.reverse = false) ?_ ?_
    · refine tr0 (by kernel_rfl) (by kernel_rfl) ?_
      refine EX.cons ?_
      refine EX1.while_ (fun nn σ => nn ≤ F.cu ∧ σ = Sm x dx { F with cu := nn } l ∧ A.hyIn F.cur.reverse = A.hyIn ((F.cur.take nn).reverse)) (fun nn σ hJ => ?_) F.cu ⟨Nat.le_refl _, rfl, by rw [show F.cu = F.cur.length by omega, List.take_length]⟩
      obtain ⟨hn, rfl, he⟩ := hJ
      have wfd : Wf { F with cu := nn } := ⟨by dsimp only; exact Nat.le_trans ‹_› ‹_›, wf.l, wf.z⟩
      refine TR.true_ ?_
      refine ifP rfl ?_
      refine EX.cons (EX1.cut2 (fun σ' => σ' = Sm x dx { F with cu := nn } l ∧ atb { F with cu := nn } 45 = false) ?_ ?_)
      · refine tr1 (by kernel_rfl) (by kernel_rfl) ?_
        refine EX.cons (EX1.if_ (TR.notb (ch := 45) M l1 wfd (by rfl) ?_))
        cases hb : atb { F with cu := nn } 45
        · refine ifP (by decide) ?_
          walk_at "w"
          exact ⟨rfl, rfl, rfl⟩
        · refine ifN (by decide) ?_
          have hp := atb_pos hb
          dsimp only at hp
          have hch : F.cur.getD (nn - 1) 0 = 45 := by
            unfold atb at hb
            have := (Bool.and_eq_true_iff.mp hb).2
            simpa using this
          walk_at "w"
          refine EX1.dec M l1 (by dsimp only; lia) ?_
          walk_at "w"
          obtain ⟨m, rfl⟩ : ∃ m, nn = m + 1 := ⟨nn - 1, by lia⟩
          have ht : (F.cur.take (m + 1)).reverse = 45 :: (F.cur.take m).reverse := by
            rw [List.take_succ, List.getElem?_eq_getElem (by lia), List.reverse_append]
            rw [Nat.add_sub_cancel, List.getD_eq_getElem?_getD, List.getElem?_eq_getElem (by omega)] at hch
            have : F.cur[m] = 45 := hch
            rw [this]; rfl
          rw [ht, A.hyIn_cons, if_pos rfl] at he
          rw [Nat.add_sub_cancel]
          cases m with
          | zero =>
            refine ifP (by rw [hl]; decide) ?_
            walk_at "w"
            refine ⟨rfl, 0, l, rfl, l1, l2, ?_⟩
            rw [he]; rfl
          | succ m =>
            refine ifN (by rw [decide_eq_true_iff]; lia) ?_
            walk_at "w"
            refine EX1.dec M l1 (by dsimp only; exact Nat.succ_pos _) ?_
            walk_at "w"
            refine ⟨_, .inl rfl, rfl, yes ?_ _⟩
            unfold A.pLong
            have : ((F.cur.take (m + 1)).reverse).isEmpty = false := by
              rw [Bool.eq_false_iff]
              intro e
              have e := congrArg List.length (List.isEmpty_iff.mp e)
              simp only [List.length_reverse, List.length_take, List.length_nil] at e
              lia
            rw [he, this]
            simp
      · rintro σ' ⟨rfl, hb⟩
        try dsimp only
        walk_at "w"
        cases nn with
        | zero =>
          refine ifP (by rw [hl]; decide) ?_
          walk_at "w"
          refine ⟨rfl, 0, l, rfl, l1, l2, ?_⟩
          rw [he]; rfl
        | succ m =>
          refine ifN (by rw [decide_eq_true_iff]; omega) ?_
          walk_at "w"
          refine EX1.dec M l1 (by dsimp only; exact Nat.succ_pos _) ?_
          walk_at "w"
          have hch : F.cur.getD m 0 ≠ 45 := by
            unfold atb at hb
            rw [decide_eq_true (by dsimp only; lia), Bool.true_and] at hb
            simpa using hb
          have ht : (F.cur.take (m + 1)).reverse = F.cur.getD m 0 :: (F.cur.take m).reverse := by
            rw [List.take_succ, List.getElem?_eq_getElem (by omega), List.reverse_append, List.getD_eq_getElem?_getD, List.getElem?_eq_getElem (by omega)]
            rfl
          rw [ht, A.hyIn_cons, if_neg hch] at he
          exact ⟨m, by lia, by exact Nat.le_of_lt ‹_›, rfl, he⟩
    · rintro σ ⟨d, l, rfl, l1, l2, hv2⟩
      try dsimp only
      refine EX.cons (EX1.backR (c := F.cu) M l1 (by kernel_rfl) (by decide) l2 ?_)
      show EX W _ _ (Sm x dx F l) _
      walk_at "w"
      obtain ⟨g0, g1, g2⟩ := A.goOut_cnt isDig F.cur F.cu (by lia)
      refine EV.go_grp (f := isDig) grp_d M l1 wf (by decide) (by intro env; with_unfolding_all rfl) (by intro env; rfl) (EV.g_d M (by kernel_rfl)) ?_
      rw [hl]
      have hany : F.cur.reverse.any isDig = decide (0 < A.cnt isDig F.cur F.cu) := by
        rw [hcnt, Bool.eq_iff_iff, decide_eq_true_iff, List.any_eq_true, List.length_pos_iff_exists_mem]
        constructor
        · rintro ⟨a, b, c⟩; exact ⟨a, List.mem_filter.mpr ⟨b, c⟩⟩
        · rintro ⟨a, b⟩; exact ⟨a, List.mem_filter.mp b⟩
      cases hg : goOut isDig F.cur 0 F.cu with
      | zero =>
        rw [decide_eq_false (by lia)]
        walk_at "w"
        refine ifP (by decide) ?_
        walk_at "w"
        refine ⟨_, .inl rfl, rfl, ?_⟩
        have := h { F with cu := 0 } rfl rfl rfl rfl rfl
        rw [A.pLong, hvf, hv2, hany, decide_eq_false (by have := g1 hg; lia), hl] at this
        exact this
      | succ e =>
        rw [decide_eq_true (by exact Nat.succ_pos _)]
        walk_at "w"
        refine ifN (by decide) ?_
        walk_at "w"
        refine EX1.dec M l1 (by dsimp only; exact Nat.succ_pos _) ?_
        walk_at "w"
        refine ⟨_, .inl rfl, rfl, ?_⟩
        have := h { F with cu := e } rfl rfl rfl rfl rfl
        rw [A.pLong, hvf, hv2, hany, decide_eq_true (by have := g2 e hg; lia), hl] at this
        exact this
end
noncomputable section
open PySem PySem.W PySem.Calls PyProof.Rows Builtin
open H (Sets fEnd KF kf_in QV looseV PW)
namespace A
noncomputable def stdLen : List Nat → Nat × Bool
  | [] => (0, false)
  | c :: r => if isVow c then (1, false) else if c = 115 then (match r with
      | [] => (0, false)
      | d :: _ => if [97, 105, 111, 117].contains d then (2, false) else (0, false))
    else if c = 106 then (match r with
      | [] => (1, true)
      | d :: _ => if [97, 111].contains d then (2, false) else (1, true))
    else if c = 110 then (match r with
      | [] => (1, true)
      | d :: r2 => if [97, 101, 111].contains d then (2, false) else if d = 106 then (match r2 with
          | [] => (2, true)
          | e :: _ => if [97, 111].contains e then (3, false) else (2, true)) else (1, true))
    else (0, false)
noncomputable abbrev K9 (i : Nat) : List Nat := (T_a_9.getD i dAm).s.reverse
theorem pre_cat (k r : List Nat) : Pre k (k ++ r) := pre_iff.mpr ⟨r, rfl⟩
theorem std_none {R : List Nat} (B : Best K9 19 R none) : stdLen R = (0, false) := by
  have no : ∀ m, m < 19 → ∀ r, R ≠ K9 m ++ r := fun m hm r e => B m hm (by rw [e]; exact pre_cat _ _)
  cases R with
  | nil => rfl
  | cons c r =>
    have a0 : c ≠ 97 := fun e => no 0 (by decide) r (by rw [e]; rfl)
    have a1 : c ≠ 101 := fun e => no 1 (by decide) r (by rw [e]; rfl)
    have a2 : c ≠ 105 := fun e => no 2 (by decide) r (by rw [e]; rfl)
    have a3 : c ≠ 106 := fun e => no 3 (by decide) r (by rw [e]; rfl)
    have a6 : c ≠ 110 := fun e => no 6 (by decide) r (by rw [e]; rfl)
    have a13 : c ≠ 111 := fun e => no 13 (by decide) r (by rw [e]; rfl)
    have a18 : c ≠ 117 := fun e => no 18 (by decide) r (by rw [e]; rfl)
    unfold stdLen
    dsimp only
    rw [if_neg (by unfold isVow; simp [a0, a1, a2, a13, a18])]
    by_cases h : c = 115
    · rw [if_pos h]
      subst h
      cases r with
      | nil => rfl
      | cons d r =>
        have b0 : d ≠ 97 := fun e => no 14 (by decide) r (by rw [e]; rfl)
        have b1 : d ≠ 105 := fun e => no 15 (by decide) r (by rw [e]; rfl)
        have b2 : d ≠ 111 := fun e => no 16 (by decide) r (by rw [e]; rfl)
        have b3 : d ≠ 117 := fun e => no 17 (by decide) r (by rw [e]; rfl)
        dsimp only
        rw [if_neg (by simp [b0, b1, b2, b3])]
    · rw [if_neg h, if_neg a3, if_neg a6]
theorem std_some {R : List Nat} {i : Nat} (B : Best K9 19 R (some i)) : stdLen R = ((T_a_9.getD i dAm).s.length, (T_a_9.getD i dAm).res == 1) := by
  obtain ⟨hi, hp, hb⟩ := B
  obtain ⟨r, rfl⟩ := pre_iff.mp hp
  have no : ∀ m, m < 19 → (K9 i).length < (K9 m).length → ∀ r', K9 i ++ r ≠ K9 m ++ r' := fun m hm hl r' e => by
    have := hb m hm (by rw [e]; exact pre_cat _ _)
    lia
  have hc := (by decide : ∀ i < 19, i = 0 ∨ i = 1 ∨ i = 2 ∨ i = 3 ∨ i = 4 ∨ i = 5 ∨ i = 6 ∨ i = 7 ∨ i = 8 ∨ i = 9 ∨ i = 10 ∨ i = 11 ∨ i = 12 ∨ i = 13 ∨ i = 14 ∨ i = 15 ∨ i = 16 ∨ i = 17 ∨ i = 18) i hi
  rcases hc with rfl | rfl | rfl | rfl | rfl | rfl | rfl | rfl | rfl | rfl | rfl | rfl | rfl | rfl | rfl | rfl | rfl | rfl | rfl
  all_goals first | rfl | skip
  · cases r with
    | nil => rfl
    | cons d r =>
      have b0 : d ≠ 97 := fun e => no 4 (by decide) (by decide) r (by rw [e]; rfl)
      have b1 : d ≠ 111 := fun e => no 5 (by decide) (by decide) r (by rw [e]; rfl)
      show (if [97, 111].contains d = true then _ else _) = _
      rw [if_neg (by simp [b0, b1])]; rfl
  · cases r with
    | nil => rfl
    | cons d r =>
      have b0 : d ≠ 97 := fun e => no 7 (by decide) (by decide) r (by rw [e]; rfl)
      have b1 : d ≠ 101 := fun e => no 8 (by decide) (by decide) r (by rw [e]; rfl)
      have b2 : d ≠ 111 := fun e => no 12 (by decide) (by decide) r (by rw [e]; rfl)
      have b3 : d ≠ 106 := fun e => no 9 (by decide) (by decide) r (by rw [e]; rfl)
      show (if [97, 101, 111].contains d = true then _ else if d = 106 then _ else _) = _
      rw [if_neg (by simp [b0, b1, b2]), if_neg b3]; rfl
  · cases r with
    | nil => rfl
    | cons d r =>
      have b0 : d ≠ 97 := fun e => no 10 (by decide) (by decide) r (by rw [e]; rfl)
      have b1 : d ≠ 111 := fun e => no 11 (by decide) (by decide) r (by rw [e]; rfl)
      show (if [97, 111].contains d = true then _ else _) = _
      rw [if_neg (by simp [b0, b1])]; rfl
noncomputable def dh (r : List Nat) : Bool := match r with
  | [] => false
  | c :: _ => c == 45 || isDig c
noncomputable def pStd (R : List Nat) : Option (List Nat) := match stdLen R with
  | (0, _) => none
  | (k + 1, weak) => if weak && !dh (R.drop (k + 1)) then none else some (offc 45 (R.drop (k + 1)))
theorem a9_len : ∀ i < 19, (T_a_9.getD i dAm).s.length ≠ 0 := by decide +kernel
theorem pStd_some {R : List Nat} {i : Nat} (B : Best K9 19 R (some i)) : pStd R = if ((T_a_9.getD i dAm).res == 1) && !dh (R.drop (T_a_9.getD i dAm).s.length) then none else some (offc 45 (R.drop (T_a_9.getD i dAm).s.length)) := by
  unfold pStd
  rw [std_some B]
  have := a9_len i B.1
  cases h : (T_a_9.getD i dAm).s.length with
  | zero => exact absurd h this
  | succ k => rfl
theorem pStd_none {R : List Nat} (B : Best K9 19 R none) : pStd R = none := by
  unfold pStd
  rw [std_none B]
end A
theorem asgF {W : Wx} {fn : Fn} {x dx : Addr} {F : Fd} {loc : List (Str × AV)} {y : Str} {p p' : Pos} {e : Expr} {Q : AF → St → Prop} (hx : fn.sc.names.lookup y = some .local) (hs : ∀ env, swapsWith e (some (.Name y p')) p.line env = pure false)
    (h : EV W fn e (Sm x dx F loc) fun a σ' => ∃ F' l, σ' = Sm x dx F' l ∧ Q .next (Sm x dx F' ((y, a) :: l))) : EX1 W fn (.Assign [.Name y p'] e p) (Sm x dx F loc) Q :=
  EX1.assign (h.mono fun a σ' hh => by obtain ⟨F', l, rfl, hq⟩ := hh; exact ⟨fun _ q => (nomatch q), hq⟩) hx hs
theorem ms_r_standard_suffix : MS F_r_standard_suffix := ⟨by kernel_rfl, by kernel_rfl⟩
set_option maxHeartbeats 1000000 in
theorem r_standard_suffix {W : Wx} {x dx : Addr} {F : Fd} {Q : AV → List (Str × AV) → Prop} (wf : Wf F) (hl : F.lb = 0) (hcu : F.cu = F.li) (h : RQ F (A.pStd F.cur.reverse) Q) : CallOK W 303 3 [.val (.ref x)] (some (x, dx)) (FL F) Q := by
  have M := ms_r_standard_suffix
  refine call_r_standard_suffix rfl ?_
  refine EX.cons ?_
  show EX1 W F_r_standard_suffix _ (Sm x dx F [("self", .val (.ref x))]) _
  refine setKe M (by l_ints) (by intro env; rfl) ?_
  refine EV.cursor M (by l_ints) ⟨_, _, rfl, rfl, ?_⟩
  refine EX.cons ?_
  refine asgF (by kernel_rfl) (by intro env; rfl) ?_
  rw [← back_full wf hl hcu] at h
  obtain ⟨F0, hF0⟩ : ∃ F0 : Fd, F0 = { F with ke := F.cu } := ⟨_, rfl⟩
  have wf0 : Wf F0 := by rw [hF0]; exact ⟨wf.c, wf.l, wf.z⟩
  have hl0 : F0.lb = 0 := by rw [hF0]; exact hl
  have b0 : back F0 = back F := by rw [hF0]; rfl
  have c0 : F0.cur = F.cur ∧ F0.li = F.li ∧ F0.ke = F.cu ∧ F0.cu = F.cu := by rw [hF0]; exact ⟨rfl, rfl, rfl, rfl⟩
  rw [← hF0]
  rw [← b0] at h
  refine EV.find_b (t := 671) (T := T_a_9) M (by l_ints) (by kernel_rfl) (by kernel_rfl) l_a_9 m_a_9 (by decide) s_a_9 (by decide +kernel) wf0 (by lia) (by decide) (by intro env; with_unfolding_all rfl) (fun i B => ?_) (fun B => ?_)
  · refine ⟨_, _, rfl, ?_⟩
    walk_at "w"
    have hr := res_ne (by decide +kernel) B.1
    refine ifN (by rw [beq_iff_eq]; exact hr) ?_
    refine EX.nil ?_
    try dsimp only
    refine EX.cons ?_
    have hle : (T_a_9.getD i dAm).s.length ≤ F0.cu := by have := A.pre_len B.2.1; rw [back_len wf0 (by lia)] at this; simp only [List.length_reverse] at this; lia
    rw [A.pStd_some B, ← back_drop wf0 hl0 _ hle] at h
    obtain ⟨F1, hF1⟩ : ∃ F1 : Fd, F1 = { F0 with cu := F0.cu - (T_a_9.getD i dAm).s.length } := ⟨_, rfl⟩
    rw [← hF1] at h ⊢
    have wf1 : Wf F1 := by rw [hF1]; exact ⟨by have := wf0.c; dsimp only; lia, wf0.l, wf0.z⟩
    have hl1 : F1.lb = 0 := by rw [hF1]; exact hl0
    have c1 : F1.cur = F.cur ∧ F1.li = F.li ∧ F1.ke = F.cu ∧ F1.cu ≤ F.cu := by rw [hF1]; exact ⟨c0.1, c0.2.1, c0.2.2.1, by dsimp only; lia⟩
    have w1 := wf1.c
    refine EX1.cut2 (fun σ' => ∃ l, σ' = Sm x dx F1 l ∧ l.lookup ("self" : Str) = some (.val (.ref x)) ∧ (((T_a_9.getD i dAm).res == 1) && !A.dh (back F1)) = false) ?_ ?_
    · walk_at "w"
      cases hres : (T_a_9.getD i dAm).res == 1
      · refine ifN (by decide) ?_
        walk_at "w"
        exact ⟨by l_ints, rfl⟩
      · rw [hres] at h
        refine ifP rfl ?_
        walk_at "w"
        refine EX1.cut2 (fun σ' => ∃ F' : Fd, σ' = Sm x dx F' (("v_1", .int ((F1.li : Int) - F1.cu)) :: ("among_var", .int (T_a_9.getD i dAm).res) :: [("self", .val (.ref x))]) ∧ A.dh (back F1) = true ∧ F'.cur = F1.cur ∧ F'.li = F1.li ∧ F'.ke = F1.ke ∧ F'.lb = F1.lb ∧ F'.br = F1.br) ?_ ?_
        · refine EX1.once (TR.true_ ?_)
          refine ifP rfl ?_
          refine EX.cons (EX1.cut2 (fun σ' => σ' = Sm x dx F1 (("v_1", .int ((F1.li : Int) - F1.cu)) :: ("among_var", .int (T_a_9.getD i dAm).res) :: [("self", .val (.ref x))]) ∧ atb F1 45 = false) ?_ ?_)
          · refine tr0 (by kernel_rfl) (by kernel_rfl) ?_
            refine EX.cons (EX1.if_ (TR.notb (ch := 45) M (by l_ints) wf1 (by rfl) ?_))
            cases hb : atb F1 45
            · refine ifP (by decide) ?_
              walk_at "w"
              exact ⟨rfl, rfl, rfl⟩
            · refine ifN (by decide) ?_
              have hp := atb_pos hb
              walk_at "w"
              refine EX1.dec M (by l_ints) (by omega) ?_
              walk_at "w"
              refine ⟨?_, rfl, rfl, rfl, rfl, rfl⟩
              rw [atb_head wf1 hl1] at hb
              cases hk : back F1 with
              | nil => rw [hk] at hb; cases hb
              | cons c r =>
                rw [hk] at hb
                have : c = 45 := by simpa using hb
                subst this; rfl
          · rintro σ' ⟨rfl, hb⟩
            try dsimp only
            walk_at "w"
            refine EV.in_grp (f := isDig) grp_d M (by l_ints) wf1 (by decide) (by intro env; with_unfolding_all rfl) (by intro env; rfl) (EV.g_d M (by kernel_rfl)) ?_
            by_cases hg : F1.lb < F1.cu ∧ isDig (F1.cur.getD (F1.cu - 1) 0) = true
            · refine ifP hg ?_
              walk_at "w"
              refine ifN (by decide) ?_
              walk_at "w"
              refine ⟨?_, rfl, rfl, rfl, rfl, rfl⟩
              have hg0 := back_get (m := 0) wf1 (by lia) (by omega)
              rw [Nat.sub_zero] at hg0
              cases hk : back F1 with
              | nil => exact absurd ((back_nil wf1 hl1).mp hk) (by lia)
              | cons c r =>
                rw [hk] at hg0
                have : isDig c = true := by rw [← hg.2, ← hg0]; rfl
                show (c == 45 || isDig c) = true
                rw [this, Bool.or_true]
            · refine ifN hg ?_
              walk_at "w"
              refine ifP (by decide) ?_
              walk_at "w"
              refine ⟨_, .inl rfl, rfl, (h F1).1 ?_ c1.1 c1.2.1 (by lia)⟩
              have : A.dh (back F1) = false := by
                rw [atb_head wf1 hl1] at hb
                cases hk : back F1 with
                | nil => rfl
                | cons c r =>
                  have hc0 : 0 < F1.cu := by
                    rcases Nat.eq_zero_or_pos F1.cu with e | e
                    · have := (back_nil wf1 hl1).mpr e; rw [hk] at this; cases this
                    · exact e
                  have hg0 := back_get (m := 0) wf1 (by lia) (by omega)
                  rw [Nat.sub_zero, hk] at hg0
                  rw [hk] at hb
                  show (c == 45 || isDig c) = false
                  rw [Bool.or_eq_false_iff]
                  refine ⟨by simpa using hb, ?_⟩
                  rw [Bool.eq_false_iff]
                  intro e
                  exact hg ⟨by lia, by rw [← hg0]; exact e⟩
              rw [this]; rfl
        · rintro σ' ⟨F', rfl, hd, e1, e2, e3, e4, e5⟩
          try dsimp only
          refine EX.cons (EX1.backR (c := F1.cu) M (by l_ints) (by kernel_rfl) (by decide) ?_ ?_)
          · rw [e2]; rfl
          refine EX.nil ?_
          try dsimp only
          refine ⟨(("v_1", .int ((F1.li : Int) - F1.cu)) :: ("among_var", .int (T_a_9.getD i dAm).res) :: [("self", .val (.ref x))]), ?_, by l_ints, ?_⟩
          · obtain ⟨f1, f2, f3, f4, f5, f6⟩ := F1
            obtain ⟨g1, g2, g3, g4, g5, g6⟩ := F'
            dsimp only at e1 e2 e3 e4 e5
            subst e1 e2 e3 e4 e5
            rfl
          · rw [hd]; rfl
    · rintro σ' ⟨l, rfl, l1, hw⟩
      try dsimp only
      rw [hw, if_neg (by decide)] at h
      refine EX.cons ?_
      refine EX1.saveR (v := "v_2") M l1 (by kernel_rfl) ?_
      have l1' : ((("v_2" : Str), AV.int ((F1.li : Int) - F1.cu)) :: l).lookup ("self" : Str) = some (.val (.ref x)) := lk_skip (by kernel_rfl) l1
      walk_at "w"
      refine EX1.opt (ch := 45) (v := "v_2") M l1' (by kernel_rfl) (by decide) "lab0" false (by kernel_rfl) (by kernel_rfl) (by decide) (by l_ints) (fun Q' hq => TR.notb M l1' wf1 (by rfl) hq) ?_
      show EX W F_r_standard_suffix _ (Sm x dx (optF F1 45) _) _
      have wf2 := optF_wf wf1 45
      have b2 := optF_back wf1 hl1 45
      obtain ⟨F2, hF2⟩ : ∃ F2, F2 = optF F1 45 := ⟨_, rfl⟩
      rw [← hF2] at wf2 b2 ⊢
      have hl2 : F2.lb = 0 := by rw [hF2]; exact hl1
      have c2 : F2.cur = F.cur ∧ F2.li = F.li ∧ F2.ke = F.cu ∧ F2.cu ≤ F.cu := by rw [hF2]; exact ⟨c1.1, c1.2.1, c1.2.2.1, by unfold optF; dsimp only; split <;> lia⟩
      refine EX.cons ?_
      refine setBr M l1' (by intro env; rfl) ?_
      refine EV.cursor M l1' ⟨_, _, rfl, rfl, ?_⟩
      have wl := wf.l
      have w0 := wf.c
      refine EX.cons (EX1.expr (EV.slice_del M l1' ⟨wf2.c, wf2.l, wf2.z⟩ (by dsimp only; lia) (by dsimp only; lia) (by decide) (by intro env; with_unfolding_all rfl) ?_) (by rfl) (by intro env; rfl))
      walk_at "w"
      refine ⟨_, .inl rfl, rfl, (h _).2 _ rfl ?_⟩
      refine (repl_cut _ _ _ (by dsimp only; rw [c2.1]; lia)).trans ?_
      rw [← b2, back_rev hl2]
  · refine ⟨_, _, rfl, ?_⟩
    walk_at "w"
    refine ifP (by decide) ?_
    walk_at "w"
    refine ⟨_, .inl rfl, rfl, (h F0).1 (A.pStd_none B) c0.1 c0.2.1 (by lia)⟩
end
noncomputable section
open PySem PySem.W PySem.Calls PyProof.Rows Builtin
open H (Sets fEnd KF kf_in QV looseV PW)
namespace A
noncomputable def one (a : Nat) : Nat := if a = 225 then 97 else if a = 233 then 101 else if a = 237 then 105 else if a = 243 then 111 else if a = 250 then 117 else a
noncomputable def hatOf (a : Nat) : Option Nat := if a = 99 then some 265 else if a = 103 then some 285 else if a = 104 then some 293 else if a = 106 then some 309 else if a = 115 then some 349 else if a = 117 then some 365 else none
noncomputable def canon : List Nat → List Nat
  | [] => []
  | [a] => [one a]
  | a :: b :: r => if b = 120 ∧ (hatOf a).isSome = true then (hatOf a).getD 0 :: canon r else one a :: canon (b :: r)
noncomputable def upd (fl : Bool) (a : Nat) : Bool := if [113, 119, 120, 121, 225, 233, 237, 243, 250].contains a then true else if a = 45 then false else fl
noncomputable def frn : Bool → List Nat → Bool
  | fl, [] => fl
  | fl, [a] => upd fl a
  | fl, a :: b :: r => if b = 120 ∧ (hatOf a).isSome = true then frn fl r else frn (upd fl a) (b :: r)
theorem canon_single {a : Nat} (h : hatOf a = none) (r : List Nat) : canon (a :: r) = one a :: canon r := by
  cases r with
  | nil => rfl
  | cons b r => unfold canon; rw [if_neg (by rw [h]; rintro ⟨_, q⟩; cases q)]; cases r <;> rfl
theorem frn_single {a : Nat} (h : hatOf a = none) (fl : Bool) (r : List Nat) : frn fl (a :: r) = frn (upd fl a) r := by
  cases r with
  | nil => rfl
  | cons b r => rw [frn, if_neg (by rw [h]; rintro ⟨_, q⟩; cases q)]
theorem canon_pair {a h : Nat} (e : hatOf a = some h) (r : List Nat) : canon (a :: 120 :: r) = h :: canon r := by
  rw [canon, if_pos ⟨rfl, by rw [e]; rfl⟩, e]; rfl
theorem frn_pair {a h : Nat} (e : hatOf a = some h) (fl : Bool) (r : List Nat) : frn fl (a :: 120 :: r) = frn fl r := by
  rw [frn, if_pos ⟨rfl, by rw [e]; rfl⟩]
theorem canon_plain {a b : Nat} (h : b ≠ 120) (r : List Nat) : canon (a :: b :: r) = one a :: canon (b :: r) := by
  rw [canon, if_neg (fun q => h q.1)]
theorem frn_plain {a b : Nat} (h : b ≠ 120) (fl : Bool) (r : List Nat) : frn fl (a :: b :: r) = frn (upd fl a) (b :: r) := by
  rw [frn, if_neg (fun q => h q.1)]
noncomputable abbrev K0 (i : Nat) : List Nat := (T_a_0.getD i dAm).s
noncomputable def out0 (i : Nat) : List Nat := [[], [45], [265], [285], [293], [309], [113], [349], [365], [119], [120], [121], [97], [101], [105], [111], [117]].getD i []
noncomputable def fl0 (i : Nat) (fl : Bool) : Bool := if i = 1 then false else if i = 6 ∨ 9 ≤ i then true else fl
theorem hc17 : ∀ i < 17, (i = 0 ∨ i = 1 ∨ i = 2 ∨ i = 3 ∨ i = 4 ∨ i = 5 ∨ i = 6 ∨ i = 7 ∨ i = 8 ∨ i = 9 ∨ i = 10 ∨ i = 11 ∨ i = 12 ∨ i = 13 ∨ i = 14 ∨ i = 15 ∨ i = 16) := by decide
theorem key0 {i : Nat} (hi : i < 17) (h0 : i ≠ 0) (fl : Bool) (r : List Nat) : canon (K0 i ++ r) = out0 i ++ canon r ∧ frn fl (K0 i ++ r) = frn (fl0 i fl) r := by
  have hc := (hc17 i hi).resolve_left h0
  rcases hc with rfl | rfl | rfl | rfl | rfl | rfl | rfl | rfl | rfl | rfl | rfl | rfl | rfl | rfl | rfl | rfl
  all_goals first
    | exact ⟨canon_single rfl r, frn_single rfl fl r⟩
    | exact ⟨canon_pair rfl r, frn_pair rfl fl r⟩
theorem best0 {R : List Nat} (B : Best K0 17 R (some 0)) : R = [] ∨ ∃ c r, R = c :: r ∧ canon R = c :: canon r ∧ ∀ fl, frn fl R = frn fl r := by
  obtain ⟨_, _, hb⟩ := B
  have no : ∀ m, m < 17 → 0 < (K0 m).length → ∀ r, R ≠ K0 m ++ r := fun m hm hl r e => by
    have := hb m hm (by rw [e]; exact pre_cat _ _)
    have : (K0 0).length = 0 := rfl
    lia
  cases R with
  | nil => exact .inl rfl
  | cons c r =>
    refine .inr ⟨c, r, rfl, ?_⟩
    have a1 : c ≠ 45 := fun e => no 1 (by decide) (by decide) r (by rw [e]; rfl)
    have a6 : c ≠ 113 := fun e => no 6 (by decide) (by decide) r (by rw [e]; rfl)
    have a9 : c ≠ 119 := fun e => no 9 (by decide) (by decide) r (by rw [e]; rfl)
    have a10 : c ≠ 120 := fun e => no 10 (by decide) (by decide) r (by rw [e]; rfl)
    have a11 : c ≠ 121 := fun e => no 11 (by decide) (by decide) r (by rw [e]; rfl)
    have a12 : c ≠ 225 := fun e => no 12 (by decide) (by decide) r (by rw [e]; rfl)
    have a13 : c ≠ 233 := fun e => no 13 (by decide) (by decide) r (by rw [e]; rfl)
    have a14 : c ≠ 237 := fun e => no 14 (by decide) (by decide) r (by rw [e]; rfl)
    have a15 : c ≠ 243 := fun e => no 15 (by decide) (by decide) r (by rw [e]; rfl)
    have a16 : c ≠ 250 := fun e => no 16 (by decide) (by decide) r (by rw [e]; rfl)
    have h1 : one c = c := by unfold one; rw [if_neg a12, if_neg a13, if_neg a14, if_neg a15, if_neg a16]
    have h2 : ∀ fl, upd fl c = fl := fun fl => by unfold upd; rw [if_neg (by simp [a6, a9, a10, a11, a12, a13, a14, a15, a16]), if_neg a1]
    cases r with
    | nil => exact ⟨by show [one c] = _; rw [h1]; rfl, fun fl => h2 fl⟩
    | cons b r =>
      by_cases hx : b = 120
      · subst hx
        have b1 : c ≠ 99 := fun e => no 2 (by decide) (by decide) r (by rw [e]; rfl)
        have b2 : c ≠ 103 := fun e => no 3 (by decide) (by decide) r (by rw [e]; rfl)
        have b3 : c ≠ 104 := fun e => no 4 (by decide) (by decide) r (by rw [e]; rfl)
        have b4 : c ≠ 106 := fun e => no 5 (by decide) (by decide) r (by rw [e]; rfl)
        have b5 : c ≠ 115 := fun e => no 7 (by decide) (by decide) r (by rw [e]; rfl)
        have b6 : c ≠ 117 := fun e => no 8 (by decide) (by decide) r (by rw [e]; rfl)
        have hh : hatOf c = none := by unfold hatOf; rw [if_neg b1, if_neg b2, if_neg b3, if_neg b4, if_neg b5, if_neg b6]
        exact ⟨by rw [canon_single hh, h1], fun fl => by rw [frn_single hh, h2]⟩
      · exact ⟨by rw [canon_plain hx, h1], fun fl => by rw [frn_plain hx, h2]⟩
theorem best0_none {R : List Nat} (B : Best K0 17 R none) : False := B 0 (by decide) (pre_iff.mpr ⟨R, rfl⟩)
end A
theorem tabOfF {T : List Am} (h : A.tabB (T.map (·.s)) (T.map (·.sub)) = true) : A.Tab (fun i => (T.getD i dAm).s) (fun i => (T.getD i dAm).sub) T.length := by
  have := A.tab_of h
  rw [List.length_map] at this
  have e1 : (fun i => (T.map (·.s)).getD i []) = fun i => (T.getD i dAm).s := by
    funext i
    rw [List.getD_eq_getElem?_getD, List.getElem?_map, List.getD_eq_getElem?_getD]
    cases T[i]? <;> rfl
  have e2 : (fun i => (T.map (·.sub)).getD i 0) = fun i => (T.getD i dAm).sub := by
    funext i
    rw [List.getD_eq_getElem?_getD, List.getElem?_map, List.getD_eq_getElem?_getD]
    cases T[i]? <;> rfl
  rw [e1, e2] at this
  exact this
section
variable {W : Wx} {fn : Fn} {x dx : Addr} {F : Fd} {loc : List (Str × AV)} {np p : Pos}
theorem EV.find_f {ta : Str} {t : Addr} {T : List Am} {ap np2 p2 : Pos} {Q : AV → St → Prop} (M : MS fn) (hs : loc.lookup ("self" : Str) = some (.val (.ref x))) (hesp : fn.sc.names.lookup ("EsperantoStemmer" : Str) = some .globalImplicit)
    (hf : findCls W.K (.ref 674) (.type "type") ta = some (.val (.ref t))) (hl : listOk W.K t T) (hm : T.all (amOk W.K) = true) (hz : T.length ≤ 1000) (tb : A.tabB (T.map (·.s)) (T.map (·.sub)) = true) (hsz : (T.all fun m => decide (m.s.length ≤ 500)) = true)
    (wf : Wf F) (hrm : 0 < fn.rm) (he : MthEq np "find_among" ap p [.Attribute (.Name "EsperantoStemmer" np2) ta p2])
    (h1 : ∀ i, A.Best (fun i => (T.getD i dAm).s) T.length (fwd F) (some i) → Q (.int (T.getD i dAm).res) (Sm x dx { F with cu := F.cu + (T.getD i dAm).s.length } loc))
    (h0 : A.Best (fun i => (T.getD i dAm).s) T.length (fwd F) none → Q (.int 0) (Sm x dx F loc)) : EV W fn (.Call (.Attribute (.Name "self" np) "find_among" ap) [.Attribute (.Name "EsperantoStemmer" np2) ta p2] [] p) (Sm x dx F loc) Q := by
  refine EV.meth (f := 133) (rm := 0) (EV.self M hs ⟨_, _, rfl, rfl, rfl, AR.cons (EV.clsattr (EV.glob g_esp ⟨rfl, AR.nil (Mine.find_f hl hm hz wf (tabOfF tb) (fun i => ?_) fun r B => ?_)⟩ M.kind hesp (by decide)) hf rfl) (by intro env; rfl)⟩) (by kernel_rfl) (by kernel_rfl) (by kernel_rfl) hrm plS he
  · rw [List.getD_eq_getElem?_getD]
    cases e : T[i]? with
    | none => show 0 ≤ 500; lia
    | some m => exact of_decide_eq_true (List.all_eq_true.mp hsz m (List.mem_of_getElem? e))
  · cases r with
    | none => exact h0 B
    | some i => exact h1 i B
end
theorem EV.not {W : Wx} {fn : Fn} {σ : St} {e : Expr} {p : Pos} {Q : AV → St → Prop} (h : EV W fn e σ fun a σ1 => ∃ c, truA a = some c ∧ Q (.bool (!c)) σ1) : EV W fn (.UnaryOp .Not e p) σ Q := by
  refine ⟨fun g A S P E hg I k => UnaryOp_ (h.run g A S _ E hg I fun u S1 a σ1 h1 I1 r1 s1 => ?_)⟩
  obtain ⟨c, e1, hq⟩ := h1
  exact not_of (tru_ok e1 r1 (k _ _ _ _ hq I1 rfl s1))
noncomputable def canF (d R : List Nat) (br ke : Nat) : Fd := ⟨d ++ R, d.length, d.length + R.length, 0, br, ke⟩
theorem canF_wf {d R : List Nat} {br ke : Nat} (h : d.length + R.length ≤ 500) : Wf (canF d R br ke) := ⟨Nat.le_add_right .., (List.length_append ..).symm, by show (d ++ R).length ≤ 500; rw [List.length_append]; exact h⟩
theorem canF_fwd {d R : List Nat} {br ke : Nat} : fwd (canF d R br ke) = R := by
  unfold fwd canF
  dsimp only
  rw [← List.length_append, List.take_length, List.drop_left]
theorem canF_cut {d k r s : List Nat} : { repl ⟨d ++ (k ++ r), d.length + k.length, d.length + (k ++ r).length, 0, d.length, d.length + k.length⟩ d.length (d.length + k.length) s with ke := d.length + s.length } = canF (d ++ s) r d.length (d.length + s.length) := by
  unfold repl canF
  dsimp only
  rw [if_pos (Nat.le_refl _), List.take_left, ← List.append_assoc d k r, ← List.length_append, List.drop_left]
  simp only [List.length_append]
  congr 1 <;> lia
theorem ms_r_canonical_form : MS F_r_canonical_form := ⟨by kernel_rfl, by kernel_rfl⟩

def CJ (x dx : Addr) (t : List Nat) (nn : Nat) (σ : St) : Prop := ∃ d R fl br ke l, σ = Sm x dx (canF d R br ke) l ∧ l.lookup ("self" : Str) = some (.val (.ref x)) ∧ l.lookup ("B_foreign" : Str) = some (.bool fl) ∧
  nn = R.length ∧ d ++ A.canon R = A.canon t ∧ A.frn fl R = A.frn false t ∧ d.length + R.length ≤ 500
theorem canon_turn {W : Wx} {x dx : Addr} {t : List Nat} {Q : AF → St → Prop} {b : List Stmt} {d k r s : List Nat} {fl fl' : Bool} {l : List (Str × AV)} {br ke : Nat} (hk : 0 < k.length)
    (h1 : d ++ A.canon (k ++ r) = A.canon t) (h2 : A.frn fl (k ++ r) = A.frn false t) (h3 : d.length + (k ++ r).length ≤ 500) (e1 : A.canon (k ++ r) = s ++ A.canon r) (e2 : A.frn fl (k ++ r) = A.frn fl' r) (hs : s.length ≤ k.length)
    (l1 : l.lookup ("self" : Str) = some (.val (.ref x))) (l2 : l.lookup ("B_foreign" : Str) = some (.bool fl')) : ∃ m, m < (k ++ r).length ∧ CJ x dx t m (Sm x dx (canF (d ++ s) r br ke) l) := by
  rw [List.length_append] at h3
  refine ⟨r.length, by rw [List.length_append]; lia, d ++ s, r, fl', br, ke, l, rfl, l1, l2, rfl, ?_, ?_, ?_⟩
  · rw [← h1, e1, List.append_assoc]
  · rw [← h2, e2]
  · rw [List.length_append]; lia
theorem canF_skip {d k r : List Nat} {br ke : Nat} : (⟨d ++ (k ++ r), d.length + k.length, d.length + (k ++ r).length, 0, br, ke⟩ : Fd) = canF (d ++ k) r br ke := by
  unfold canF
  rw [List.append_assoc]
  simp only [List.length_append]
  congr 1
  lia
section
variable {W : Wx} {fn : Fn} {x dx : Addr} {t d k r s : List Nat} {fl fl' : Bool} {l : List (Str × AV)} {np p ap cp bp bp2 bp3 cn : Pos} {kd kd2 : Nat} {Q : AF → St → Prop}
theorem turnW {Q : AF → St → Prop} (h1 : d ++ A.canon (k ++ r) = A.canon t) (h2 : A.frn fl (k ++ r) = A.frn false t) (h3 : d.length + (k ++ r).length ≤ 500) : Wf ⟨d ++ (k ++ r), d.length + k.length, d.length + (k ++ r).length, 0, d.length, d.length + k.length⟩ :=
  ⟨by dsimp only; rw [List.length_append]; lia, (List.length_append ..).symm, by show (d ++ (k ++ r)).length ≤ 500; rw [List.length_append]; exact h3⟩
theorem turnB (M : MS fn) {s : Str} (hs : s = "B_foreign") (hx : fn.sc.names.lookup s = some .local) (l1 : l.lookup ("self" : Str) = some (.val (.ref x)))
    (h1 : d ++ A.canon (k ++ r) = A.canon t) (h2 : A.frn fl (k ++ r) = A.frn false t) (h3 : d.length + (k ++ r).length ≤ 500) (e1 : A.canon (k ++ r) = k ++ A.canon r) (e2 : A.frn fl (k ++ r) = A.frn fl' r) (hk : 0 < k.length) {fb : Bool} (hb : fb = fl')
    (hq : ∀ σ, (∃ m, m < (k ++ r).length ∧ CJ x dx t m σ) → Q .next σ) : EX1 W fn (.Assign [.Name s bp] (.Constant (.bool fb) kd bp2) bp3) (Sm x dx ⟨d ++ (k ++ r), d.length + k.length, d.length + (k ++ r).length, 0, d.length, d.length + k.length⟩ l) Q := by
  subst hs hb
  refine asgF hx (by intro env; rfl) (EV.cbool ⟨_, _, rfl, hq _ ?_⟩)
  rw [canF_skip]
  exact canon_turn (W := W) (Q := Q) (b := []) hk h1 h2 h3 e1 e2 (Nat.le_refl _) (lk_skip (by kernel_rfl) l1) lk_here
theorem turnS (M : MS fn) (l1 : l.lookup ("self" : Str) = some (.val (.ref x))) 
    (h3 : d.length + (k ++ r).length ≤ 500) (h1 : d ++ A.canon (k ++ r) = A.canon t) (h2 : A.frn fl (k ++ r) = A.frn false t) {s : Str} (hz : s.cps.toList.length ≤ 200) (hrm : 1 < fn.rm) (hkind : fn.sc.kind = .function) (he : MthEq np "slice_from" ap p [.Constant (.str s) kd cp]) 
    (hq : Q .next (Sm x dx (canF (d ++ s.cps.toList) r d.length (d.length + s.cps.toList.length)) l)) : EX1 W fn (.Expr (.Call (.Attribute (.Name "self" np) "slice_from" ap) [.Constant (.str s) kd cp] [] p) bp) (Sm x dx ⟨d ++ (k ++ r), d.length + k.length, d.length + (k ++ r).length, 0, d.length, d.length + k.length⟩ l) Q := by
  refine EX1.expr (EV.slice_from M l1 (turnW (Q := Q) h1 h2 h3) (Nat.le_add_right ..) (by dsimp only; rw [List.length_append]; lia) hz hrm he ?_) hkind (by intro env; rfl)
  dsimp only
  rw [canF_cut]
  exact hq
end
section
variable {W : Wx} {fn : Fn} {loc : List (Str × AV)} {ob : Option (Addr × Addr)} {fl : List (Str × AV)} {v k : Int} {p1 p2 p3 p4 : Pos} {kd : Nat} {Q : AF → St → Prop} {b o : List Stmt}
theorem amP (hx : fn.sc.names.lookup ("among_var" : Str) = some .local) (hl : loc.lookup ("among_var" : Str) = some (.int v)) (hm : behindInMarks .Eq (.Constant (.int k) kd p2) = false) (e : v = k) (h : EX W fn b ⟨loc, ob, fl, none⟩ Q) :
    EX1 W fn (.If (.Compare (.Name "among_var" p1) [.Eq] [.Constant (.int k) kd p2] p3) b o p4) ⟨loc, ob, fl, none⟩ Q :=
  EX1.if_ (cmpT hm (nm hx (by decide) hl (EV.cint ⟨_, rfl, by rw [e]; exact ifP (by simp) h⟩)))
theorem amE (hx : fn.sc.names.lookup ("among_var" : Str) = some .local) (hl : loc.lookup ("among_var" : Str) = some (.int v)) (hm : behindInMarks .Eq (.Constant (.int k) kd p2) = false) (e : ¬v = k) (h : EX W fn o ⟨loc, ob, fl, none⟩ Q) :
    EX1 W fn (.If (.Compare (.Name "among_var" p1) [.Eq] [.Constant (.int k) kd p2] p3) b o p4) ⟨loc, ob, fl, none⟩ Q :=
  EX1.if_ (cmpT hm (nm hx (by decide) hl (EV.cint ⟨_, rfl, ifN (by simpa using e) h⟩)))
theorem amN {s : Stmt} (hx : fn.sc.names.lookup ("among_var" : Str) = some .local) (hl : loc.lookup ("among_var" : Str) = some (.int v)) (hm : behindInMarks .Eq (.Constant (.int k) kd p2) = false) (e : ¬v = k) (h : EX1 W fn s ⟨loc, ob, fl, none⟩ (qS W fn [] Q)) :
    EX1 W fn (.If (.Compare (.Name "among_var" p1) [.Eq] [.Constant (.int k) kd p2] p3) b [s] p4) ⟨loc, ob, fl, none⟩ Q :=
  EX1.if_ (cmpT hm (nm hx (by decide) hl (EV.cint ⟨_, rfl, ifN (by simpa using e) (EX.cons h)⟩)))
end
set_option maxHeartbeats 2000000 in
theorem r_canonical_form {W : Wx} {x dx : Addr} {t : List Nat} {Q : AV → List (Str × AV) → Prop} (ht : t.length ≤ 500)
    (h : ∀ br ke, Q (.bool (!A.frn false t)) (FL (canF (A.canon t) [] br ke))) : CallOK W 240 3 [.val (.ref x)] (some (x, dx)) (FL (fresh t)) Q := by
  have M := ms_r_canonical_form
  refine call_r_canonical_form rfl ?_
  refine EX.cons ?_
  show EX1 W F_r_canonical_form _ (Sm x dx (fresh t) [("self", .val (.ref x))]) _
  have hf : fresh t = canF [] t 0 t.length := by unfold canF fresh; dsimp only [List.nil_append, List.length_nil]; rw [Nat.zero_add]
  walk_at "w"
  let Pq1 : St → Prop := fun σ' => ∃ br ke l, σ' = Sm x dx (canF (A.canon t) [] br ke) l ∧ l.lookup ("B_foreign" : Str) = some (.bool (A.frn false t))
  refine EX1.cut2 Pq1 ?_ ?_
  · refine EX1.while_ (CJ x dx t) (fun nn σ hJ => ?_) t.length ⟨[], t, false, 0, t.length, [("B_foreign", .bool false), ("self", .val (.ref x))], by rw [hf], by l_ints, by l_ints, rfl, rfl, rfl, by simpa using ht⟩
    obtain ⟨d, R, fl, br, ke, l, rfl, l1, l2, rfl, h1, h2, h3⟩ := hJ
    refine TR.true_ ?_
    refine ifP rfl ?_
    walk_at "w"
    let Pq2 : St → Prop := fun σ' => R = [] ∧ ∃ br ke l', σ' = Sm x dx (canF d [] br ke) l' ∧ l'.lookup ("self" : Str) = some (.val (.ref x)) ∧ l'.lookup ("B_foreign" : Str) = some (.bool fl) ∧ l'.lookup ("v_1" : Str) = some (.int d.length)
    refine EX1.cut2 Pq2 ?_ ?_
    · refine tr0 (by kernel_rfl) (by kernel_rfl) ?_
      obtain ⟨l', hl'⟩ : ∃ l', l' = (("v_1" : Str), AV.int (canF d R br ke).cu) :: l := ⟨_, rfl⟩
      rw [← hl']
      have l3 : l'.lookup ("self" : Str) = some (.val (.ref x)) := by rw [hl']; exact lk_skip (by kernel_rfl) l1
      have l4 : l'.lookup ("B_foreign" : Str) = some (.bool fl) := by rw [hl']; exact lk_skip (by kernel_rfl) l2
      have l5 : l'.lookup ("v_1" : Str) = some (.int d.length) := by rw [hl']; exact lk_here
      refine EX.cons (setBr M l3 (by intro env; rfl) (EV.cursor M l3 ⟨_, _, rfl, rfl, ?_⟩))
      show EX W _ _ (Sm x dx (canF d R d.length ke) l') _
      refine EX.cons (asgF (by kernel_rfl) (by intro env; rfl) ?_)
      refine EV.find_f (t := 362) (T := T_a_0) M l3 (by kernel_rfl) (by kernel_rfl) l_a_0 m_a_0 (by decide) s_a_0 (by decide +kernel) (canF_wf h3) (by decide) (by intro env; with_unfolding_all rfl) (fun i B => ?_) (fun B => ?_)
      · rw [canF_fwd] at B
        refine ⟨_, _, rfl, ?_⟩
        try dsimp only
        refine EX.cons (setKe M (lk_skip (by kernel_rfl) l3) (by intro env; rfl) (EV.cursor M (lk_skip (by kernel_rfl) l3) ⟨_, _, rfl, rfl, ?_⟩))
        dsimp only
        by_cases hi0 : i = 0
        · subst hi0
          show EX W _ _ (Sm x dx ⟨d ++ R, d.length, d.length + R.length, 0, d.length, d.length⟩ _) _
          have l9 := lk_here (x := ("among_var" : Str)) (a := .int (T_a_0.getD 0 dAm).res) (l := l')
          refine EX.cons ?_
          repeat (refine amN (by kernel_rfl) l9 (by with_unfolding_all rfl) (by decide) ?_)
          first | refine amE (by kernel_rfl) l9 (by with_unfolding_all rfl) (by decide) ?_ | refine amP (by kernel_rfl) l9 (by with_unfolding_all rfl) (by decide) ?_
          walk_at "w"
          rcases A.best0 B with rfl | ⟨c, r, rfl, k1, k2⟩
          · refine ifP (by rw [decide_eq_true_iff]; simp) ?_
            walk_at "w"
            exact ⟨rfl, rfl, d.length, d.length, _, rfl, lk_skip (by kernel_rfl) l3, lk_skip (by kernel_rfl) l4, lk_skip (by kernel_rfl) l5⟩
          · refine ifN (by rw [decide_eq_true_iff]; simp only [List.length_cons]; lia) ?_
            walk_at "w"
            refine EX1.augF M (lk_skip (by kernel_rfl) l3) nf_cursor (fl_cursor _) rfl (EV.cint ⟨_, _, rfl, rfl, put_cursor _ (d.length + 1) (by dsimp only; rfl), ?_⟩)
            walk_at "w"
            have := canF_skip (d := d) (k := [c]) (r := r) (br := d.length) (ke := d.length)
            rw [show (⟨d ++ (c :: r), d.length + 1, d.length + (c :: r).length, 0, d.length, d.length⟩ : Fd) = canF (d ++ [c]) r d.length d.length from this]
            exact canon_turn (W := W) (Q := fun _ _ => True) (b := []) (k := [c]) Nat.one_pos h1 h2 h3 k1 (k2 fl) (Nat.le_refl _) (lk_skip (by kernel_rfl) l3) (lk_skip (by kernel_rfl) l4)
        · obtain ⟨r, rfl⟩ := A.pre_iff.mp B.2.1
          obtain ⟨k1, k2⟩ := A.key0 B.1 hi0 fl r
          obtain ⟨l6, hl6⟩ : ∃ l6, l6 = (("among_var" : Str), AV.int (T_a_0.getD i dAm).res) :: l' := ⟨_, rfl⟩
          rw [← hl6]
          have l7 : l6.lookup ("self" : Str) = some (.val (.ref x)) := by rw [hl6]; exact lk_skip (by kernel_rfl) l3
          have l8 : l6.lookup ("B_foreign" : Str) = some (.bool fl) := by rw [hl6]; exact lk_skip (by kernel_rfl) l4
          have l9 : l6.lookup ("among_var" : Str) = some (.int (T_a_0.getD i dAm).res) := by rw [hl6]; exact lk_here
          have hi := B.1
          clear B hl6 hl'
          show EX W _ _ (Sm x dx ⟨d ++ (A.K0 i ++ r), d.length + (A.K0 i).length, d.length + (A.K0 i ++ r).length, 0, d.length, d.length + (A.K0 i).length⟩ l6) _
          have hc := (A.hc17 i hi).resolve_left hi0
          rcases hc with rfl | rfl | rfl | rfl | rfl | rfl | rfl | rfl | rfl | rfl | rfl | rfl | rfl | rfl | rfl | rfl
          all_goals as_aux_lemma =>
            refine EX.cons ?_
            repeat (first | refine amP (by kernel_rfl) l9 (by with_unfolding_all rfl) (by decide) ?_ | refine amN (by kernel_rfl) l9 (by with_unfolding_all rfl) (by decide) ?_)
            first
              | (refine EX.cons (turnB (t := t) M rfl (by kernel_rfl) l7 h1 h2 h3 k1 k2 (by decide) rfl fun σ hh => ?_); walk_at "w"; exact hh; done)
              | skip
            all_goals (refine EX.cons (turnS M l7 h3 h1 h2 (by decide) (by decide) (by rfl) (by intro env; with_unfolding_all rfl) ?_))
            all_goals walk_at "w"
            all_goals first
              | exact canon_turn (W := W) (Q := fun _ _ => True) (b := []) (by decide) h1 h2 h3 k1 k2 (by decide) l7 l8
              | exact canon_turn (W := W) (Q := fun _ _ => True) (b := []) (by decide) h1 h2 h3 k1 k2 (by decide) (lk_skip (by kernel_rfl) l7) lk_here
      · exact (A.best0_none (by rw [canF_fwd] at B; exact B)).elim
    · rintro σ' ⟨rfl, br, ke, l', rfl, l3, l4, l5⟩
      try dsimp only
      walk_at "w"
      have e1 : d = A.canon t := by rw [← h1]; exact (List.append_nil d).symm
      have e2 : fl = A.frn false t := h2
      exact ⟨br, ke, l', by rw [← e1]; rfl, by rw [← e2]; exact l4⟩
  · rintro σ' ⟨br, ke, l, rfl, l1⟩
    try dsimp only
    walk_at "w"
    refine EV.not ?_
    walk_at "w"
    exact ⟨_, .inl rfl, rfl, h br ke⟩
end
noncomputable section
open PySem PySem.W PySem.Calls PyProof.Rows Builtin
open H (Sets fEnd KF kf_in QV looseV PW)
theorem ms_r_initial : MS F_r_initial_apostrophe := ⟨by kernel_rfl, by kernel_rfl⟩
theorem ms_r_final : MS F_r_final_apostrophe := ⟨by kernel_rfl, by kernel_rfl⟩
theorem r_initial {W : Wx} {x dx : Addr} {F : Fd} {Q : AV → List (Str × AV) → Prop} (wf : Wf F) (hn : ∀ c ∈ F.cur, c ≠ 39) (h : Q (.bool false) (FL { F with br := F.cu })) : CallOK W 247 3 [.val (.ref x)] (some (x, dx)) (FL F) Q := by
  have M := ms_r_initial
  have w1 := wf.c
  have w2 := wf.l
  have w3 := wf.z
  refine call_r_initial_apostrophe rfl ?_
  refine EX.cons ?_
  show EX1 W F_r_initial_apostrophe _ (Sm x dx F [("self", .val (.ref x))]) _
  walk_at "w"
  refine TR.or ?_
  walk_at "w"
  by_cases hc : F.cu = F.li
  · refine ifP (by rw [beq_iff_eq]; lia) ?_
    refine ifP rfl ?_
    walk_at "w"
    exact ⟨_, .inl rfl, rfl, h⟩
  · refine ifN (by rw [beq_iff_eq]; lia) ?_
    walk_at "w"
    refine EV.item ?_
    walk_at "w"
    refine ⟨by lia, ?_⟩
    walk_at "w"
    refine ⟨by lia, by lia, ?_⟩
    walk_at "w"
    have : F.cur.getD F.cu 0 ≠ 39 := by
      rw [List.getD_eq_getElem?_getD, List.getElem?_eq_getElem (by lia)]
      exact hn _ (List.getElem_mem (by omega))
    refine ifP (by rw [bne_iff_ne]; intro e; exact this (List.cons.inj e).1) ?_
    walk_at "w"
    exact ⟨_, .inl rfl, rfl, h⟩
theorem r_final {W : Wx} {x dx : Addr} {F : Fd} {Q : AV → List (Str × AV) → Prop} (wf : Wf F) (hn : ∀ c ∈ F.cur, c ≠ 39) (h : Q (.bool false) (FL { F with ke := F.cu })) : CallOK W 261 3 [.val (.ref x)] (some (x, dx)) (FL F) Q := by
  have M := ms_r_final
  have w1 := wf.c
  have w2 := wf.l
  have w3 := wf.z
  refine call_r_final_apostrophe rfl ?_
  refine EX.cons ?_
  show EX1 W F_r_final_apostrophe _ (Sm x dx F [("self", .val (.ref x))]) _
  walk_at "w"
  have wf1 : Wf { F with ke := F.cu } := ⟨wf.c, wf.l, wf.z⟩
  refine TR.notb (ch := 39) M (by l_ints) wf1 (by rfl) ?_
  have : atb { F with ke := F.cu } 39 = false := by
    unfold atb
    dsimp only
    by_cases hc : F.lb < F.cu
    · rw [decide_eq_true hc, Bool.true_and, List.getD_eq_getElem?_getD, List.getElem?_eq_getElem (by omega)]
      exact beq_eq_false_iff_ne.mpr (hn _ (List.getElem_mem (by omega)))
    · rw [decide_eq_false hc]; rfl
  rw [this]; refine ifP (by decide) ?_
  walk_at "w"
  exact ⟨_, .inl rfl, rfl, h⟩
namespace A
noncomputable def stemR (R : List Nat) : List Nat := match pPron R with
  | some r => r
  | none => match pCorr R with
    | some r => r
    | none => if inT T_a_5 (part R) || pMerged R then R else match pUjn R with
      | some r => r
      | none => if pLong R then (pStd R).getD R else R
noncomputable def stemA (t : List Nat) : List Nat := if frn false t then canon t else (stemR (canon t).reverse).reverse
end A
structure Full (F : Fd) (u : List Nat) : Prop where
  cur : F.cur = u
  cu : F.cu = u.length
  li : F.li = u.length
  lb : F.lb = 0
theorem Full.wf {F : Fd} {u : List Nat} (f : Full F u) (h : u.length ≤ 500) : Wf F := ⟨by rw [f.cu, f.li]; exact Nat.le_refl _, by rw [f.li, f.cur], by rw [f.cur]; exact h⟩
section
variable {W : Wx} {fn : Fn} {x dx : Addr} {F : Fd} {loc : List (Str × AV)} {np p : Pos}
theorem EX1.attempt {call : Expr} {pn pi pr n1 c1 r1 n2 pp hp : Pos} {kd} {Q : AF → St → Prop} (M : MS fn) (hx : fn.sc.names.lookup ("lab0" : Str) = some .globalImplicit) (hpl : ∀ env, isTrue call env (eval call env) = (do let v ← eval call env; standAt call.pos; holding [v] (truthy v))) (P : Bool → Fd → Prop)
    (hcall : ∀ Q' : AV → St → Prop, (∀ b F', P b F' → Q' (.bool b) (Sm x dx F' loc)) → EV W fn call (Sm x dx F loc) Q') (h1 : ∀ F', P true F' → Q (.ret (.bool false)) (Sm x dx F' loc)) (h0 : ∀ F', P false F' → Q .next (Sm x dx F' loc)) :
    EX1 W fn (.Try [.If (.UnaryOp .Not call pn) [.Raise (some (.Call (.Name "lab0" n1) [] [] c1)) none r1] [] pi, .Return (some (.Constant (.bool false) kd n2)) pr] [.ExceptHandler (some (.Name "lab0" np)) none [.Pass pp] hp] [] [] p) (Sm x dx F loc) Q := by
  refine tr0 M.kind hx ?_
  refine EX.cons (EX1.if_ (TR.not (tplain hpl (hcall _ fun b F' hP => ⟨b, rfl, ?_⟩))))
  cases b with
  | true =>
    refine ifN (by decide) ?_
    exact EX.nil (EX.cons (EX1.ret (EV.cbool (h1 F' hP))))
  | false =>
    refine ifP (by decide) ?_
    exact EX.cons (rs0 M.kind hx ⟨rfl, h0 F' hP⟩)
def RP (F : Fd) (o : Option (List Nat)) (b : Bool) (F' : Fd) : Prop := match b with
  | true => ∃ u, o = some u ∧ F'.cur = u.reverse
  | false => o = none ∧ F'.cur = F.cur ∧ F'.li = F.li ∧ F'.lb = F.lb
theorem RQ.of {o : Option (List Nat)} {Q : AV → List (Str × AV) → Prop} (h : ∀ b F', RP F o b F' → Q (.bool b) (FL F')) : RQ F o Q := fun F' => ⟨fun a b c d => h false F' ⟨a, b, c, d⟩, fun u a b => h true F' ⟨u, a, b⟩⟩
end
theorem ms_stem : MS F_stem := ⟨by kernel_rfl, by kernel_rfl⟩
theorem canon_len : ∀ t, (A.canon t).length ≤ t.length
  | [] => Nat.le_refl _
  | [a] => Nat.le_refl _
  | a :: b :: r => by
    have h1 := canon_len r
    have h2 := canon_len (b :: r)
    rw [A.canon]
    split
    · simp only [List.length_cons]; lia
    · simp only [List.length_cons] at h2 ⊢; lia
theorem one_ap {c : Nat} (h : c ≠ 39) : A.one c ≠ 39 := by
  unfold A.one
  split
  · decide
  split
  · decide
  split
  · decide
  split
  · decide
  split
  · decide
  exact h
theorem hat_ap (c : Nat) : (A.hatOf c).getD 0 ≠ 39 := by
  unfold A.hatOf
  repeat' split
  all_goals decide
theorem canon_ap : ∀ t, (∀ c ∈ t, c ≠ 39) → ∀ c ∈ A.canon t, c ≠ 39
  | [], h, c, hc => by cases hc
  | [a], h, c, hc => by
    obtain rfl := List.mem_singleton.mp hc
    exact one_ap (h a (.head _))
  | a :: b :: r, h, c, hc => by
    rw [A.canon] at hc
    split at hc
    · rcases List.mem_cons.mp hc with rfl | hc
      · exact hat_ap _
      · exact canon_ap r (fun c hc => h c (.tail _ (.tail _ hc))) c hc
    · rcases List.mem_cons.mp hc with rfl | hc
      · exact one_ap (h a (.head _))
      · exact canon_ap (b :: r) (fun c hc => h c (.tail _ hc)) c hc
set_option maxHeartbeats 2000000 in
theorem stem {W : Wx} {x dx : Addr} {t : List Nat} {Q : AV → List (Str × AV) → Prop} (ht : t.length ≤ 500) (hn : ∀ c ∈ t, c ≠ 39)
    (h : ∀ b F', F'.cur = A.stemA t → Q (.bool b) (FL F')) : CallOK W 310 4 [.val (.ref x)] (some (x, dx)) (FL (fresh t)) Q := by
  have M := ms_stem
  refine call_stem rfl ?_
  refine EX.cons ?_
  show EX1 W F_stem _ (Sm x dx (fresh t) [("self", .val (.ref x))]) _
  walk_at "w"
  refine EV.meth0 (f := 240) (rm := 3) (EV.self M (by l_ints) ⟨_, _, rfl, rfl, rfl, r_canonical_form ht fun br ke => ?_⟩) (by kernel_rfl) (by kernel_rfl) (by kernel_rfl) (by decide) plS (by intro env; with_unfolding_all rfl)
  walk_at "w"
  cases hf : A.frn false t
  · refine ifN (by decide) ?_
    walk_at "w"
    obtain ⟨u, hu⟩ : ∃ u, u = A.canon t := ⟨_, rfl⟩
    have hul : u.length ≤ 500 := by rw [hu]; have := canon_len t; exact Nat.le_trans ‹_› ‹_›
    have hun : ∀ c ∈ u, c ≠ 39 := by rw [hu]; exact canon_ap t hn
    have hst : A.stemA t = (A.stemR u.reverse).reverse := by unfold A.stemA; rw [hf, hu]; rfl
    rw [hst] at h
    rw [← hu]
    clear hst
    have hcf : canF u [] br ke = ⟨u, u.length, u.length, 0, br, ke⟩ := by unfold canF; simp
    rw [hcf]
    have wf1 : ∀ c a b, c ≤ u.length → Wf ⟨u, c, u.length, 0, a, b⟩ := fun c a b hc => ⟨hc, rfl, hul⟩
    refine EX1.expr (EV.meth0 (f := 247) (rm := 3) (EV.self M (by l_ints) ⟨_, _, rfl, rfl, rfl, r_initial (wf1 0 br ke (Nat.zero_le _)) hun ?_⟩) (by kernel_rfl) (by kernel_rfl) (by kernel_rfl) (by decide) plS (by intro env; with_unfolding_all rfl)) (by rfl) (by intro env; rfl)
    walk_at "w"
    refine EX1.attempt M (by kernel_rfl) (by intro env; rfl) (RP ⟨u, u.length, u.length, 0, 0, ke⟩ (A.pPron u.reverse)) (fun Q' hq => EV.meth0 (f := 254) (rm := 3) (EV.self M (by l_ints) ⟨_, _, rfl, rfl, rfl, r_pronoun (wf1 _ _ _ (Nat.le_refl _)) rfl rfl (RQ.of hq)⟩) (by kernel_rfl) (by kernel_rfl) (by kernel_rfl) (by decide) plS (by intro env; with_unfolding_all rfl)) ?_ ?_
    · rintro F' ⟨r, e, hc⟩
      refine ⟨_, .inl rfl, rfl, h _ _ (hc.trans ?_)⟩
      unfold A.stemR
      rw [e]
    rintro ⟨cur', cu, li', lb', br, ke⟩ ⟨e1, a1, a2, a3⟩
    dsimp only at a1 a2 a3
    replace a1 := a1.symm
    replace a2 := a2.symm
    replace a3 := a3.symm
    subst a1 a2 a3
    try dsimp only
    refine EX.cons (EX1.backR (c := u.length) M (by l_ints) (by kernel_rfl) (by decide) (by l_ints) ?_)
    walk_at "w"
    refine EX1.expr (EV.meth0 (f := 261) (rm := 3) (EV.self M (by l_ints) ⟨_, _, rfl, rfl, rfl, r_final (wf1 _ _ _ (Nat.le_refl _)) hun ?_⟩) (by kernel_rfl) (by kernel_rfl) (by kernel_rfl) (by decide) plS (by intro env; with_unfolding_all rfl)) (by rfl) (by intro env; rfl)
    dsimp only
    refine EX.cons (EX1.backR (c := u.length) M (by l_ints) (by kernel_rfl) (by decide) (by l_ints) ?_)
    walk_at "w"
    refine EX1.attempt M (by kernel_rfl) (by intro env; rfl) (RP ⟨u, u.length, u.length, 0, br, u.length⟩ (A.pCorr u.reverse)) (fun Q' hq => EV.meth0 (f := 289) (rm := 3) (EV.self M (by l_ints) ⟨_, _, rfl, rfl, rfl, r_correlative (wf1 _ _ _ (Nat.le_refl _)) rfl rfl (RQ.of hq)⟩) (by kernel_rfl) (by kernel_rfl) (by kernel_rfl) (by decide) plS (by intro env; with_unfolding_all rfl)) ?_ ?_
    · rintro F' ⟨r, e, hc⟩
      refine ⟨_, .inl rfl, rfl, h _ _ (hc.trans ?_)⟩
      unfold A.stemR
      rw [e1, e]
    rintro ⟨cur', cu, li', lb', br, ke⟩ ⟨e2, a1, a2, a3⟩
    dsimp only at a1 a2 a3
    replace a1 := a1.symm
    replace a2 := a2.symm
    replace a3 := a3.symm
    subst a1 a2 a3
    try dsimp only
    refine EX.cons (EX1.backR (c := u.length) M (by l_ints) (by kernel_rfl) (by decide) (by l_ints) ?_)
    walk_at "w"
    refine EX1.attempt M (by kernel_rfl) (by intro env; rfl) (fun b F' => b = (A.inT T_a_5 (A.part u.reverse)) ∧ F'.cur = u ∧ F'.li = u.length ∧ F'.lb = 0) (fun Q' hq => EV.meth0 (f := 275) (rm := 3) (EV.self M (by l_ints) ⟨_, _, rfl, rfl, rfl, r_uninflected (wf1 _ _ _ (Nat.le_refl _)) rfl rfl fun F' a b c => hq _ F' ⟨rfl, a, b, c⟩⟩) (by kernel_rfl) (by kernel_rfl) (by kernel_rfl) (by decide) plS (by intro env; with_unfolding_all rfl)) ?_ ?_
    · rintro F' ⟨e, hc, _⟩
      refine ⟨_, .inl rfl, rfl, h _ _ (hc.trans ?_)⟩
      unfold A.stemR
      rw [e1, e2, ← e, Bool.true_or, if_pos rfl, List.reverse_reverse]
    rintro ⟨cur', cu, li', lb', br, ke⟩ ⟨e3, a1, a2, a3⟩
    dsimp only at a1 a2 a3
    replace a1 := a1.symm
    replace a2 := a2.symm
    replace a3 := a3.symm
    subst a1 a2 a3
    try dsimp only
    refine EX.cons (EX1.backR (c := u.length) M (by l_ints) (by kernel_rfl) (by decide) (by l_ints) ?_)
    walk_at "w"
    refine EX1.attempt M (by kernel_rfl) (by intro env; rfl) (fun b F' => b = (A.pMerged u.reverse) ∧ F'.cur = u ∧ F'.li = u.length ∧ F'.lb = 0) (fun Q' hq => EV.meth0 (f := 282) (rm := 3) (EV.self M (by l_ints) ⟨_, _, rfl, rfl, rfl, r_merged_numeral (wf1 _ _ _ (Nat.le_refl _)) rfl rfl fun F' a b c => hq _ F' ⟨rfl, a, b, c⟩⟩) (by kernel_rfl) (by kernel_rfl) (by kernel_rfl) (by decide) plS (by intro env; with_unfolding_all rfl)) ?_ ?_
    · rintro F' ⟨e, hc, _⟩
      refine ⟨_, .inl rfl, rfl, h _ _ (hc.trans ?_)⟩
      unfold A.stemR
      rw [e1, e2, ← e, Bool.or_true, if_pos rfl, List.reverse_reverse]
    rintro ⟨cur', cu, li', lb', br, ke⟩ ⟨e4, a1, a2, a3⟩
    dsimp only at a1 a2 a3
    replace a1 := a1.symm
    replace a2 := a2.symm
    replace a3 := a3.symm
    subst a1 a2 a3
    try dsimp only
    refine EX.cons (EX1.backR (c := u.length) M (by l_ints) (by kernel_rfl) (by decide) (by l_ints) ?_)
    walk_at "w"
    refine EX1.attempt M (by kernel_rfl) (by intro env; rfl) (RP ⟨u, u.length, u.length, 0, br, ke⟩ (A.pUjn u.reverse)) (fun Q' hq => EV.meth0 (f := 268) (rm := 3) (EV.self M (by l_ints) ⟨_, _, rfl, rfl, rfl, r_ujn_suffix (wf1 _ _ _ (Nat.le_refl _)) rfl rfl (RQ.of hq)⟩) (by kernel_rfl) (by kernel_rfl) (by kernel_rfl) (by decide) plS (by intro env; with_unfolding_all rfl)) ?_ ?_
    · rintro F' ⟨r, e, hc⟩
      refine ⟨_, .inl rfl, rfl, h _ _ (hc.trans ?_)⟩
      unfold A.stemR
      rw [e1, e2, ← e3, ← e4, e]
      rfl
    rintro ⟨cur', cu, li', lb', br, ke⟩ ⟨e5, a1, a2, a3⟩
    dsimp only at a1 a2 a3
    replace a1 := a1.symm
    replace a2 := a2.symm
    replace a3 := a3.symm
    subst a1 a2 a3
    try dsimp only
    refine EX.cons (EX1.backR (c := u.length) M (by l_ints) (by kernel_rfl) (by decide) (by l_ints) ?_)
    walk_at "w"
    refine EV.meth0 (f := 296) (rm := 3) (EV.self M (by l_ints) ⟨_, _, rfl, rfl, rfl, r_long_word (wf1 _ _ _ (Nat.le_refl _)) rfl rfl ?_⟩) (by kernel_rfl) (by kernel_rfl) (by kernel_rfl) (by decide) plS (by intro env; with_unfolding_all rfl)
    rintro ⟨cur', cu, li', lb', br', ke'⟩ a1 a2 a3 _ _
    dsimp only at a1 a2 a3
    replace a1 := a1.symm
    replace a2 := a2.symm
    replace a3 := a3.symm
    subst a1 a2 a3
    dsimp only
    walk_at "w"
    have key : A.stemR u.reverse = if A.pLong u.reverse then (A.pStd u.reverse).getD u.reverse else u.reverse := by
      unfold A.stemR
      rw [e1, e2, ← e3, ← e4, e5]
      rfl
    cases hlw : A.pLong u.reverse
    · refine ifP (by decide) ?_
      walk_at "w"
      refine ⟨_, .inl rfl, rfl, h _ _ ?_⟩
      rw [key, hlw, if_neg (by decide), List.reverse_reverse]
    · refine ifN (by decide) ?_
      refine EX.nil ?_
      try dsimp only
      refine EX.cons (EX1.backR (c := u.length) M (by l_ints) (by kernel_rfl) (by decide) (by l_ints) ?_)
      walk_at "w"
      rw [hlw, if_pos rfl] at key
      refine EV.meth0 (f := 303) (rm := 3) (EV.self M (by l_ints) ⟨_, _, rfl, rfl, rfl, r_standard_suffix (wf1 _ _ _ (Nat.le_refl _)) rfl rfl (RQ.of ?_)⟩) (by kernel_rfl) (by kernel_rfl) (by kernel_rfl) (by decide) plS (by intro env; with_unfolding_all rfl)
      intro b F' hP
      walk_at "w"
      cases b with
      | true =>
        obtain ⟨r, e, hc⟩ := hP
        refine ifN (by decide) ?_
        walk_at "w"
        refine ⟨_, .inl rfl, rfl, h _ _ ?_⟩
        rw [key]
        dsimp only at e
        rw [e]
        exact hc
      | false =>
        obtain ⟨e, hc, _⟩ := hP
        refine ifP (by decide) ?_
        walk_at "w"
        refine ⟨_, .inl rfl, rfl, h _ _ ?_⟩
        rw [key]
        dsimp only at e
        rw [e]
        exact hc.trans (List.reverse_reverse u).symm
  · refine ifP (by decide) ?_
    walk_at "w"
    refine ⟨_, .inl rfl, rfl, h _ _ ?_⟩
    unfold A.stemA canF
    rw [hf, if_pos rfl]
    simp

theorem ms_stemWord : MS F_stemWord := ⟨by kernel_rfl, by kernel_rfl⟩
theorem stemWord {W : Wx} {x dx : Addr} {F : Fd} {t : List Nat} {Q : AV → List (Str × AV) → Prop} (ht : t.length ≤ 500) (hn : ∀ c ∈ t, c ≠ 39)
    (h : ∀ F', Q (.str (A.stemA t)) (FL F')) : CallOK W 189 5 [.val (.ref x), .str t] (some (x, dx)) (FL F) Q := by
  have M := ms_stemWord
  refine call_stemWord rfl ?_
  refine EX.cons ?_
  show EX1 W F_stemWord _ (Sm x dx F [("self", .val (.ref x)), ("word", .str t)]) _
  refine EX1.expr (EV.meth (f := 42) (rm := 0) (EV.self M (by l_ints) ⟨_, _, rfl, rfl, rfl, ?_⟩) (by kernel_rfl) (by kernel_rfl) (by kernel_rfl) (by decide) plS (by intro env; with_unfolding_all rfl)) (by rfl) (by intro env; rfl)
  walk_at "w"
  refine set_current ht ?_
  refine EX.cons ?_
  refine EX1.expr (EV.meth0 (f := 310) (rm := 4) (EV.self (F := fresh t) M (by l_ints) ⟨_, _, rfl, rfl, rfl, stem ht hn fun b F' e => ?_⟩) (by kernel_rfl) (by kernel_rfl) (by kernel_rfl) (by decide) plS (by intro env; with_unfolding_all rfl)) (by rfl) (by intro env; rfl)
  walk_at "w"
  refine EV.meth0 (f := 49) (rm := 0) (EV.self (F := F') M (by l_ints) ⟨_, _, rfl, rfl, rfl, get_current ?_⟩) (by kernel_rfl) (by kernel_rfl) (by kernel_rfl) (by decide) plS (by intro env; with_unfolding_all rfl)
  rw [e]
  exact ⟨_, .inl rfl, rfl, h F'⟩
theorem ms_init : MS F_init := ⟨by kernel_rfl, by kernel_rfl⟩
theorem init {W : Wx} {x dx : Addr} {Q : AV → List (Str × AV) → Prop} (h : Q .none (FL (fresh []))) : CallOK W 35 1 [.val (.ref x)] (some (x, dx)) [] Q := by
  have M := ms_init
  refine call_init rfl ?_
  refine EX.cons ?_
  show EX1 W F_init _ ⟨[("self", .val (.ref x))], some (x, dx), [], none⟩ _
  refine EX1.expr (EV.meth (f := 42) (rm := 0) (EV.name (a := .val (.ref x)) (by l_ints) ⟨x, dx, rfl, rfl, rfl, ?_⟩ (by kernel_rfl) (by decide)) (by kernel_rfl) (by kernel_rfl) (by kernel_rfl) (by decide) plS (by intro env; with_unfolding_all rfl)) (by rfl) (by intro env; rfl)
  walk_at "w"
  refine set_current0 (t := []) (by decide) ?_
  walk_at "w"
  exact ⟨_, .inr ⟨rfl, rfl⟩, rfl, h⟩
end
noncomputable section
open PySem PySem.W PySem.Calls PyProof.Rows Builtin
open H (Sets fEnd KF kf_in QV looseV PW)
noncomputable def cstrs : List Expr → Option (List (List Nat))
  | [] => some []
  | .Constant (.str s) _ _ :: r => (cstrs r).map (s.cps.toList :: ·)
  | _ => none
set_option tactic.hygienic true in
theorem spl_consts {M : Model} {A : Around} {E : Value → Shared → Prop} {env : Env} {p : Pos} : ∀ {es : List Expr} {ls : List (List Nat)} (_ : cstrs es = some ls) {S : Shared} {P : List Value → Shared → Prop}
    (_ : ∀ vs tk, StrsAre vs (ls.map sx) → P vs { S with toks := tk }), wpAny M A (spliced (backTo p (starEach es env))) P E S
  | [], ls, h, S, P, k => by
    cases h
    exact args_nil (k [] S.toks .nil)
  | e :: r, ls, h, S, P, k => by
    unfold cstrs at h
    split at h
    · rename_i h0; cases h0
    · rename_i s kd q r' h0
      cases h0
      rw [Option.map_eq_some_iff] at h
      obtain ⟨l', h1, rfl⟩ := h
      refine args_cons (wpAny_Constant_str (k := kd) (pos := q) (spl_consts h1 fun vs tk hs => ?_)) rfl
      exact k _ _ (.cons s _ hs)
    · cases h
theorem wpList {W : Wx} {A : Around} {E : Value → Shared → Prop} {env : Env} {p : Pos} {es : List Expr} {ls : List (List Nat)} (h : cstrs es = some ls) (hz : ls.length ≤ 1000) {S : Shared} {P : Value → Shared → Prop}
    (k : ∀ tk vs, StrsAre vs (ls.map sx) → P (.ref S.heap.objs.size) { S with heap := S.heap.push { cls := .type "list", data := .seq (List.toArray vs) }, toks := tk }) : wpAny W.M A (eval (.List es p) env) P E S := by
  refine wpAny_List (spl_consts h fun vs tk hs => ⟨?_, k tk vs hs⟩)
  have := hs.len_eq
  rw [List.length_map] at this
  rw [sizeLine_eq]; lia
theorem strs_push {h : Heap} {vs : List Value} : (h.push { cls := .type "list", data := .seq (List.toArray vs) }).IsList h.objs.size (List.toArray vs) := ⟨_, Heap.get?_push_size _ rfl, rfl, _, rfl⟩
section
variable {W : Wx} {fn : Fn} {σ : St}
theorem EV.lstrs {es : List Expr} {ls : List (List Nat)} {p : Pos} {Q : AV → St → Prop} (h : cstrs es = some ls) (hz : ls.length ≤ 1000) (hq : Q (.strs ls) σ) : EV W fn (.List es p) σ Q := by
  refine ⟨fun g A S P E hg I k => wpList h hz fun tk vs hs => ?_⟩
  have up : ∀ b o, S.heap.get? b = some o → (S.heap.push { cls := .type "list", data := .seq (List.toArray vs) }).get? b = some o := fun b o e => Heap.get?_push_of_some _ e
  exact k _ _ _ _ hq (I.grows up rfl rfl) ⟨_, vs, rfl, strs_push, hs⟩ (.of_keeps up)
noncomputable def strsK (K : Frag) (a : Addr) : Option (List (List Nat)) := ((K.lookup a).bind isL).bind (·.mapM fun v => match v with | .str s _ => some s.cps.toList | _ => none)
theorem strs_mapM : ∀ {vs : List Value} {ls : List (List Nat)}, vs.mapM (fun v => match v with | .str s _ => some s.cps.toList | _ => none) = some ls → StrsAre vs (ls.map sx)
  | [], ls, h => by
    have h : some [] = some ls := h
    cases h; exact .nil
  | v :: vs, ls, h => by
    rw [List.mapM_cons] at h
    cases v with
    | str s t =>
      have h : (vs.mapM (fun v => match v with | .str s _ => some s.cps.toList | _ => none) >>= fun r => some (s.cps.toList :: r)) = some ls := h
      rw [Option.bind_eq_bind, Option.bind_eq_some_iff] at h
      obtain ⟨r, h1, h2⟩ := h
      cases h2
      exact .cons s t (strs_mapM h1)
    | _ => exact absurd h (by simp)
theorem strsK_rv {K : Frag} {a : Addr} {ls : List (List Nat)} {h : Heap} (hK : K.In h) (e : strsK K a = some ls) : Rv h (.strs ls) (.ref a) := by
  obtain ⟨vs, h1, h2⟩ := Option.bind_eq_some_iff.mp e
  obtain ⟨o, h3, h4⟩ := Option.bind_eq_some_iff.mp h1
  obtain ⟨n, h5, h6⟩ := isL_eq h4
  exact ⟨a, vs, rfl, ⟨o, hK _ _ h3, h5, n, h6⟩, strs_mapM h2⟩
theorem EV.gstrs {x : Str} {p : Pos} {a : Addr} {ls : List (List Nat)} {Q : AV → St → Prop} (he : nsIn W.K mainGlobals x = some (some (.ref a))) (hs : strsK W.K a = some ls) (h : Q (.strs ls) σ) (hk : fn.sc.kind = .function := by rfl) (hx : fn.sc.names.lookup x = some .globalImplicit := by rfl) (hd : (x == ("__debug__" : Str)) = false := by decide) : EV W fn (.Name x p) σ Q := by
  refine ⟨fun g A S P E hg I k => (EV.glob (Q := fun b σ' => b = .val (.ref a) ∧ σ' = σ) he ⟨rfl, rfl⟩ hk hx hd).run g A S P E hg I fun u S1 b σ1 h1 I1 r1 s1 => ?_⟩
  obtain ⟨rfl, rfl⟩ := h1
  cases r1
  exact k _ _ _ _ h I1 (strsK_rv I1.k hs) s1
noncomputable def endsW (l e : List Nat) : Bool := e.isSuffixOf l
theorem ends_eq (l e : List Nat) : Txt.endswith (sx l) (sx e) = endsW l e := by
  unfold Txt.endswith endsW
  rw [StrLaws.subAt_eq, sx_length, sx_length]
  show (decide (0 + e.length ≤ l.length) && (((l.drop (l.length - e.length)).take e.length) == e)) = _
  rw [Bool.eq_iff_iff, Bool.and_eq_true, decide_eq_true_iff, beq_iff_eq, List.isSuffixOf_iff_suffix]
  constructor
  · rintro ⟨h1, h2⟩
    rw [List.take_of_length_le (by rw [List.length_drop]; omega)] at h2
    have h3 := List.take_append_drop (l.length - e.length) l
    rw [h2] at h3
    exact ⟨_, h3⟩
  · rintro ⟨t, rfl⟩
    rw [List.length_append, Nat.add_sub_cancel, List.drop_left, List.take_length]
    exact ⟨by lia, rfl⟩
theorem EV.ends {o e : Expr} {ap p : Pos} {Q : AV → St → Prop} (h : EV W fn o σ fun a σ1 => ∃ l, a = .str l ∧ EV W fn e σ1 fun b σ2 => ∃ r, b = .str r ∧ Q (.bool (endsW l r)) σ2)
    (pl : Env → Sem Bool) (he : ∀ env, eval (.Call (.Attribute o "endswith" ap) [e] [] p) env = (do
      let ov ← eval o env
      standAt ap.atName
      let (f, first) ← holding [ov] (getMethod ov "endswith" (pl env))
      callWith p f first (backTo p (starEach [e] env)) (backToKw p (keywordEach [] env)))) (hst : ∀ env, starEach [e] env = [(false, eval e env)]) : EV W fn (.Call (.Attribute o "endswith" ap) [e] [] p) σ Q := by
  refine ⟨fun g A S P E hg I k => ?_⟩
  refine methodCall_KW (h.run g A S _ E hg I fun u S1 a σ1 h1 I1 r1 s1 => ?_) (he _)
  obtain ⟨l, rfl, h2⟩ := h1
  obtain ⟨t, rfl⟩ := r1
  refine GM.endswith ?_
  have e0 : backTo p (starEach [e] g.env) = [(false, eval e g.env)] := by rw [hst]; rfl
  rw [e0]
  refine Calls.callWith_builtin rfl (Calls.evalArgs_plain (Calls.spliced_cons (h2.run g A S1 _ E hg I1 fun v S2 b σ2 h3 I2 r2 s2 => Calls.spliced_nil ?_)))
  obtain ⟨r, rfl, hq⟩ := h3
  obtain ⟨t', rfl⟩ := r2
  refine SC.endswith ?_
  rw [ends_eq]
  exact k _ _ _ _ hq I2 rfl (s1.trans s2)
theorem EV.and {x y : Expr} {p : Pos} {Q : AV → St → Prop} (h : EV W fn x σ fun a σ1 => ∃ c, truA a = some c ∧ if c then EV W fn y σ1 Q else Q a σ1) : EV W fn (.BoolOp .And [x, y] p) σ Q := by
  refine ⟨fun g A S P E hg I k => BoolOp_and (h.run g A S _ E hg I fun u S1 a σ1 h1 I1 r1 s1 => ?_)⟩
  obtain ⟨c, e, hq⟩ := h1
  refine tru_ok e r1 ?_
  cases c with
  | false => exact k _ _ _ _ hq I1 r1 s1
  | true => exact BoolOp_one (hq.run g A S1 P E hg I1 fun v S2 b σ2 h2 I2 r2 s2 => k _ _ _ _ h2 I2 r2 (s1.trans s2))
theorem EV.ifexp {t x y : Expr} {p : Pos} {Q : AV → St → Prop} (h : TR W fn t σ fun c σ1 => if c then EV W fn x σ1 Q else EV W fn y σ1 Q) : EV W fn (.IfExp t x y p) σ Q := by
  refine ⟨fun g A S P E hg I k => IfExp_ (h.run g A S _ E hg I fun c S1 σ1 h1 I1 s1 => ?_)⟩
  cases c with
  | false => exact h1.run g A S1 P E hg I1 fun v S2 b σ2 h2 I2 r2 s2 => k _ _ _ _ h2 I2 r2 (s1.trans s2)
  | true => exact h1.run g A S1 P E hg I1 fun v S2 b σ2 h2 I2 r2 s2 => k _ _ _ _ h2 I2 r2 (s1.trans s2)
theorem TR.eqNil {x : Expr} {p q : Pos} {Q : Bool → St → Prop} (h : EV W fn x σ fun a σ1 => ∃ ls, a = .strs ls ∧ Q (decide (ls = [])) σ1) : TR W fn (.Compare x [.Eq] [.List [] q] p) σ Q := by
  refine ⟨fun g A S P E hg I k => wpAny_isTrue_Compare1 (h.run g A S _ E hg I fun u S1 a σ1 h1 I1 r1 s1 => wpList (ls := []) rfl (by decide) fun tk vs hs => ?_) (by with_unfolding_all rfl)⟩
  obtain ⟨ls, rfl, hq⟩ := h1
  obtain ⟨b, us, rfl, hl, hus⟩ := r1
  cases hs
  have up : ∀ b o, S1.heap.get? b = some o → (S1.heap.push { cls := .type "list", data := .seq (List.toArray []) }).get? b = some o := fun b o e => Heap.get?_push_of_some _ e
  have I2 : In W g A σ1 { S1 with heap := S1.heap.push { cls := .type "list", data := .seq (List.toArray []) }, toks := tk } := I1.grows up rfl rfl
  have hl2 := IsList.step hl (.of_keeps up)
  have hn := hus.len_eq
  rw [List.length_map] at hn
  have hun : A.units < cLine := by have := I.un; unfold cLine; lia
  cases ls with
  | nil =>
    have : us = [] := List.length_eq_zero_iff.mp hn
    subst this
    refine SeqAt.eq_listAt (e := fun _ => true) hl2 strs_push rfl hun (fun j h1 => absurd h1 (Nat.not_lt_zero _)) (wpAny_truthy_bool ?_)
    exact k _ _ _ hq I2 (s1.trans (.of_keeps up))
  | cons c r =>
    refine SeqAt.eq_list_lengthsAt hl2 strs_push (by simp; intro e; rw [e] at hn; cases hn) hun (wpAny_truthy_bool ?_)
    exact k _ _ _ hq I2 (s1.trans (.of_keeps up))
theorem TR.neNil {x : Expr} {p q : Pos} {Q : Bool → St → Prop} (h : EV W fn x σ fun a σ1 => ∃ ls, a = .strs ls ∧ Q (decide (ls ≠ [])) σ1) : TR W fn (.Compare x [.NotEq] [.List [] q] p) σ Q := by
  refine ⟨fun g A S P E hg I k => wpAny_isTrue_Compare1 (h.run g A S _ E hg I fun u S1 a σ1 h1 I1 r1 s1 => wpList (ls := []) rfl (by decide) fun tk vs hs => ?_) (by with_unfolding_all rfl)⟩
  obtain ⟨ls, rfl, hq⟩ := h1
  obtain ⟨b, us, rfl, hl, hus⟩ := r1
  cases hs
  have up : ∀ b o, S1.heap.get? b = some o → (S1.heap.push { cls := .type "list", data := .seq (List.toArray []) }).get? b = some o := fun b o e => Heap.get?_push_of_some _ e
  have I2 : In W g A σ1 { S1 with heap := S1.heap.push { cls := .type "list", data := .seq (List.toArray []) }, toks := tk } := I1.grows up rfl rfl
  have hl2 := IsList.step hl (.of_keeps up)
  have hn := hus.len_eq
  rw [List.length_map] at hn
  have hun : A.units < cLine := by have := I.un; unfold cLine; omega
  cases ls with
  | nil =>
    have : us = [] := List.length_eq_zero_iff.mp hn
    subst this
    refine SeqAt.RcNeAt.lists (e := fun _ => true) hl2 strs_push rfl hun (fun j h1 => absurd h1 (Nat.not_lt_zero _)) _ _ _ _ (wpAny_truthy_bool ?_)
    exact k _ _ _ hq I2 (s1.trans (.of_keeps up))
  | cons c r =>
    refine SeqAt.RcNeAt.lists_lengths hl2 strs_push (by simp; intro e; rw [e] at hn; cases hn) hun _ _ _ _ (wpAny_truthy_bool ?_)
    exact k _ _ _ hq I2 (s1.trans (.of_keeps up))
end
end
noncomputable section
open PySem PySem.W PySem.Calls PyProof.Rows Builtin
open H (Sets fEnd KF kf_in QV looseV PW)
theorem lawlist {W : Wx} {fn : Fn} {name : Str} {params : Arguments} {body : List Stmt} {dV kV doc pm ct oc : Value} {an od : Option Addr} {osl : Array (Option Value)} {es : List Expr} {ls : List (List Nat)} {p q : Pos}
    (ho : W.K.lookup fn.a = some ⟨oc, od, .func (fnOf name fn.q params body fn.sc dV kV doc pm an fn.cd ct), osl⟩) (hcd : codeIn W.K fn.cd fn.q = true)
    (hbind : bindArgs (fnOf name fn.q params body fn.sc dV kV doc pm an fn.cd ct) ⟨[], []⟩ = pure [])
    (hk : (fn.sc.kind == .function && fn.sc.names.all (fun x => x.2 != .cell) && !fn.sc.isCoroutine && !fn.sc.isGenerator) = true) (hb : body = [.Return (some (.List es p)) q]) (hes : cstrs es = some ls) (hz : ls.length ≤ 1000)
    {A : Around} {S : Shared} {P E : Value → Shared → Prop} (hK : W.K.In S.heap) (hT : ∃ mg mb, TopRead QV (looseW QV looseV) mg mb S.heap) (hd : A.depth + 5 ≤ 900)
    (k : ∀ a vs S', S'.heap.IsList a (List.toArray vs) → StrsAre vs (ls.map sx) → Keeps S S' → P (.ref a) S') : wpAny W.M A (call (.ref fn.a) []) P E S := by
  simp only [Bool.and_eq_true, beq_iff_eq, List.all_eq_true, bne_iff_ne, Bool.not_eq_true'] at hk
  obtain ⟨⟨⟨k1, k2⟩, k3⟩, k4⟩ := hk
  obtain ⟨mg, mb, T⟩ := hT
  refine wpAny_call (codeAny_call_def (fd := fnOf name fn.q params body fn.sc dV kV doc pm an fn.cd ct) (body := body) (binds := []) ?_ (hK _ _ ho) rfl T.nolimit (codeRec_of hK hcd) rfl (BindsTo.of_eq hbind) k2 (fun y hy => nomatch hy) (fun h₁ hns hk₁ => ?_) k3 k4 k1)
  · unfold recursionLimit; omega
  · rw [hb]
    refine wpAny_execs_cons (wpAny_Return_some (wpList hes hz fun tk vs hs => ?_))
    exact k _ vs _ strs_push hs ⟨_, _, rfl, fun b o e => Heap.get?_push_of_some _ (hk₁ b o e)⟩
noncomputable def retList : Stmt → List Expr | .FunctionDef _ _ [.Return (some (.List es _)) _] .. => es | _ => []
noncomputable def LV : List (List Nat) := [[97], [101], [105], [111], [117]]
noncomputable def LD : List (List Nat) := [[48], [49], [50], [51], [52], [53], [54], [55], [56], [57]]
theorem law_vowels {W : Wx} {A : Around} {S : Shared} {P E : Value → Shared → Prop} (hK : W.K.In S.heap) (hT : ∃ mg mb, TopRead QV (looseW QV looseV) mg mb S.heap) (hd : A.depth + 5 ≤ 900)
    (k : ∀ a vs S', S'.heap.IsList a (List.toArray vs) → StrsAre vs (LV.map sx) → Keeps S S' → P (.ref a) S') : wpAny W.M A (call (.ref 709) []) P E S :=
  lawlist (fn := F_law_vowels) (name := sName (H.st1 10)) (params := sParams (H.st1 10)) (body := sBody (H.st1 10)) (dV := .none) (kV := .none) (doc := .none) (pm := H.S "law_is0015_01" 2377) (ct := .none) (oc := .type "function") (an := none) (od := none) (osl := #[]) (es := retList (H.st1 10)) (by kernel_rfl) (by kernel_rfl) (by kernel_rfl) (by kernel_rfl) rfl (by kernel_rfl) (by decide) hK hT hd k
theorem law_digits {W : Wx} {A : Around} {S : Shared} {P E : Value → Shared → Prop} (hK : W.K.In S.heap) (hT : ∃ mg mb, TopRead QV (looseW QV looseV) mg mb S.heap) (hd : A.depth + 5 ≤ 900)
    (k : ∀ a vs S', S'.heap.IsList a (List.toArray vs) → StrsAre vs (LD.map sx) → Keeps S S' → P (.ref a) S') : wpAny W.M A (call (.ref 716) []) P E S :=
  lawlist (fn := F_law_digits) (name := sName (H.st1 11)) (params := sParams (H.st1 11)) (body := sBody (H.st1 11)) (dV := .none) (kV := .none) (doc := .none) (pm := H.S "law_is0015_01" 2377) (ct := .none) (oc := .type "function") (an := none) (od := none) (osl := #[]) (es := retList (H.st1 11)) (by kernel_rfl) (by kernel_rfl) (by kernel_rfl) (by kernel_rfl) rfl (by kernel_rfl) (by decide) hK hT hd k
noncomputable def LH : List (List Nat) := [[], [107], [107, 101, 108, 107], [110, 101, 110], [116], [109, 117, 108, 116], [115, 97, 109, 116], [265]]
section
variable {W : Wx} {ob : Option (Addr × Addr)} {fl : List (Str × AV)} {Q : AV → List (Str × AV) → Prop}
theorem c_vowels (h : Q (.strs LV) fl) : CallOK W 709 0 [] ob fl Q := by
  refine call_law_vowels rfl ?_
  exact EX.cons (EX1.ret (EV.lstrs (ls := LV) (by kernel_rfl) (by decide) ⟨_, .inl rfl, rfl, h⟩))
theorem c_digits (h : Q (.strs LD) fl) : CallOK W 716 0 [] ob fl Q := by
  refine call_law_digits rfl ?_
  exact EX.cons (EX1.ret (EV.lstrs (ls := LD) (by kernel_rfl) (by decide) ⟨_, .inl rfl, rfl, h⟩))
theorem c_heads (h : Q (.strs LH) fl) : CallOK W 724 0 [] ob fl Q := by
  refine call_law_heads rfl ?_
  exact EX.cons (EX1.ret (EV.lstrs (ls := LH) (by kernel_rfl) (by decide) ⟨_, .inl rfl, rfl, h⟩))
end
end
noncomputable section
open PySem PySem.W PySem.Calls PyProof.Rows Builtin
open H (Sets fEnd KF kf_in QV looseV PW)
theorem any_take_succ {f : List Nat → Bool} {l : List (List Nat)} {i : Nat} (hi : i < l.length) : (l.take (i + 1)).any f = ((l.take i).any f || f (l.getD i [])) := by
  rw [List.take_succ, List.any_append, List.getD_eq_getElem?_getD, List.getElem?_eq_getElem hi]
  show _ = (_ || f l[i])
  congr 1
  show (f l[i] || false) = _
  rw [Bool.or_false]
section
variable {W : Wx} {ob : Option (Addr × Addr)} {fl : List (Str × AV)} {Q : AV → List (Str × AV) → Prop}
theorem c_among {w : List Nat} {ends : List (List Nat)} (h : Q (.bool (ends.any (endsW w))) fl) : CallOK W 762 0 [.str w, .strs ends] ob fl Q := by
  refine call_law_among rfl ?_
  refine EX.cons ?_
  show EX1 W F_law_among _ ⟨[("word", .str w), ("ends", .strs ends)], ob, fl, none⟩ _
  let Pq1 : Nat → St → Prop := fun i σ => ∃ l, σ = ⟨l, ob, fl, none⟩ ∧ l.lookup ("word" : Str) = some (.str w) ∧ (ends.take i).any (endsW w) = false
  refine EX1.for_ (n := ends.length) (vals := fun i => .str (ends.getD i [])) Pq1
    (IT.strs (nm (by kernel_rfl) (by kernel_rfl) (by l_ints) ⟨rfl, rfl, _, rfl, by l_ints, rfl⟩)) ?_ ?_
  · rintro i σ hi ⟨l, rfl, l1, hn⟩
    refine ⟨fun _ q => (nomatch q), ?_⟩
    dsimp only
    refine EX.cons (EX1.if_ (tplain (by intro env; rfl) ?_))
    refine EV.ends (nm (by kernel_rfl) (by kernel_rfl) (lk_skip (by kernel_rfl) l1) ⟨_, rfl, nm (by kernel_rfl) (by kernel_rfl) lk_here ⟨_, rfl, _, rfl, ?_⟩⟩) plS (by intro env; with_unfolding_all rfl) (by intro env; rfl)
    cases hc : endsW w (ends.getD i [])
    · refine ifN (by decide) ?_
      refine EX.nil (EX.nil ?_)
      exact ⟨_, rfl, lk_skip (by kernel_rfl) l1, by rw [any_take_succ hi, hn, hc]; rfl⟩
    · refine ifP rfl ?_
      refine EX.cons (EX1.ret (EV.cbool ⟨_, .inl rfl, rfl, ?_⟩))
      have : ends.any (endsW w) = true := by
        rw [List.getD_eq_getElem?_getD, List.getElem?_eq_getElem hi] at hc
        exact List.any_eq_true.mpr ⟨_, List.getElem_mem hi, hc⟩
      rw [this] at h
      exact h
  · rintro σ ⟨l, rfl, l1, hn⟩
    rw [List.take_length] at hn
    rw [hn] at h
    exact EX.cons (EX1.ret (EV.cbool ⟨_, .inl rfl, rfl, h⟩))
end
namespace A
noncomputable def accL : List (List Nat) := [[225], [233], [237], [243], [250]]
noncomputable def preL : List (List Nat) := [[99], [103], [104], [106], [115]]
noncomputable def marked : List Nat → List Nat → Bool
  | _, [] => false
  | b, c :: r => accL.contains [c] || (c == 120 && preL.contains b) || marked [c] r
end A
section
variable {W : Wx} {ob : Option (Addr × Addr)} {fl : List (Str × AV)} {Q : AV → List (Str × AV) → Prop}
theorem c_marked {w : List Nat} (h : Q (.bool (A.marked [] w)) fl) : CallOK W 748 0 [.str w] ob fl Q := by
  refine call_law_marked rfl ?_
  refine EX.cons ?_
  show EX1 W F_law_marked _ ⟨[("word", .str w)], ob, fl, none⟩ _
  walk_at "w"
  refine EX1.for_ (n := w.length) (vals := fun i => .str [w.getD i 0]) (fun i σ => ∃ l b, σ = ⟨l, ob, fl, none⟩ ∧ l.lookup ("before" : Str) = some (.str b) ∧ A.marked [] w = A.marked b (w.drop i))
    (IT.str (nm (by kernel_rfl) (by kernel_rfl) (by l_ints) ⟨rfl, _, [], rfl, lk_here, rfl⟩)) ?_ ?_
  · rintro i σ hi ⟨l, b, rfl, l1, hn⟩
    refine ⟨fun _ q => (nomatch q), ?_⟩
    dsimp only
    have l1' : ((("sign" : Str), AV.str [w.getD i 0]) :: l).lookup ("before" : Str) = some (.str b) := lk_skip (by kernel_rfl) l1
    have hd : w.drop i = w.getD i 0 :: w.drop (i + 1) := by
      rw [List.getD_eq_getElem?_getD, List.getElem?_eq_getElem hi]
      exact List.drop_eq_getElem_cons hi
    rw [hd, A.marked] at hn
    obtain ⟨c, hc⟩ : ∃ c, c = w.getD i 0 := ⟨_, rfl⟩
    rw [← hc] at hn l1' ⊢
    have yes : A.marked [] w = true → Q (.bool true) fl := fun e => by
      rw [e] at h
      exact h
    refine EX.cons (EX1.if_ (TR.or ?_))
    walk_at "w"
    refine EV.lstrs (ls := A.accL) (by kernel_rfl) (by decide) ⟨_, rfl, ?_⟩
    cases h1 : A.accL.contains [c]
    · refine ifN (by decide) ?_
      refine TR.and ?_
      walk_at "w"
      cases h2 : c == 120
      · refine ifN (by rw [beq_iff_eq]; intro e; have := (List.cons.inj e).1; rw [beq_eq_false_iff_ne] at h2; exact h2 this) ?_
        refine ifN (by decide) ?_
        walk_at "w"
        rw [hn, h1, h2]; rfl
      · rw [beq_iff_eq] at h2
        refine ifP (by rw [beq_iff_eq, h2]; rfl) ?_
        walk_at "w"
        refine EV.lstrs (ls := A.preL) (by kernel_rfl) (by decide) ⟨_, rfl, ?_⟩
        cases h3 : A.preL.contains b
        · refine ifN (by decide) ?_
          walk_at "w"
          rw [hn, h1, h2, h3]; rfl
        · refine ifP rfl ?_
          exact EX.cons (EX1.ret (EV.cbool ⟨_, .inl rfl, rfl, yes (by rw [hn, h1, h2, h3]; rfl)⟩))
    · refine ifP rfl (ifP rfl ?_)
      exact EX.cons (EX1.ret (EV.cbool ⟨_, .inl rfl, rfl, yes (by rw [hn, h1]; rfl)⟩))
  · rintro σ ⟨l, b, rfl, l1, hn⟩
    rw [List.drop_length] at hn
    rw [hn] at h
    exact EX.cons (EX1.ret (EV.cbool ⟨_, .inl rfl, rfl, h⟩))
end
end
noncomputable section
open PySem PySem.W PySem.Calls PyProof.Rows Builtin
open H (Sets fEnd KF kf_in QV looseV PW)
noncomputable def flatA : AV → Bool
  | .none => true | .bool _ => true | .int _ => true | .str _ => true | .val _ => true
  | _ => false
theorem flat_rv {h h' : Heap} {a : AV} {v : Value} (f : flatA a = true) (r : Rv h a v) : Rv h' a v := by
  cases a <;> first | exact r | cases f
noncomputable def flatL (l : List (Str × AV)) : Bool := l.all fun p => flatA p.2
theorem flat_at {l : List (Str × AV)} (f : flatL l = true) {x : Str} {a : AV} (e : l.lookup x = some a) : flatA a = true := by
  induction l with
  | nil => cases e
  | cons p r ih =>
    obtain ⟨y, b⟩ := p
    unfold flatL at f
    rw [List.all_cons, Bool.and_eq_true] at f
    rw [List.lookup_cons] at e
    by_cases q : x = y
    · subst q; rw [beq_self_eq_true] at e; cases e; exact f.1
    · rw [show (x == y) = false from beq_eq_false_iff_ne.mpr q] at e; exact ih f.2 e
theorem flat_ents {P : Params} {h h' : Heap} : ∀ {fl : List (Str × AV)} {es : List DictEntry}, flatL fl = true → EntsR P h fl es → EntsR P h' fl es
  | [], [], _, _ => trivial
  | (n, a) :: r, e :: es, f, ⟨x, y, z, w⟩ => by
    unfold flatL at f
    rw [List.all_cons, Bool.and_eq_true] at f
    exact ⟨x, y, flat_rv f.1 z, flat_ents f.2 w⟩
  | [], _ :: _, _, x => x.elim
  | _ :: _, [], _, x => x.elim
structure MlAt (g : Cx) (S : Shared) (x : Str) (ls : List (List Nat)) (a : Addr) (vs : List Value) (m : Str → Option Value) : Prop where
  ns : S.heap.Ns g.L m
  at_ : m x = some (.ref a)
  lst : S.heap.IsList a (List.toArray vs)
  ss : StrsAre vs (ls.map sx)
  B : g.B.get? a = none
  N : ∀ o, g.N.get? a = some o → ∃ vs, o.data = .fields vs
  nd : ∃ o, S.heap.get? a = some o ∧ o.dict = none
theorem In.ml {W : Wx} {g : Cx} {A : Around} {σ : St} {S : Shared} {x : Str} {ls : List (List Nat)} (I : In W g A σ S) (e : σ.ml = some (x, ls)) : ∃ a vs m, MlAt g S x ls a vs m := by
  obtain ⟨m, hm, hlo, hml⟩ := I.lo
  unfold MlR at hml
  rw [e] at hml
  obtain ⟨a, vs, e1, e2, e3, e4, e5, e6⟩ := hml
  exact ⟨a, vs, m, hm, e1, e2, e3, e4, e5, e6⟩
theorem In.mlset {W : Wx} {g : Cx} {A : Around} {σ : St} {S : Shared} {x : Str} {ls ls' : List (List Nat)} {a : Addr} {vs vs' : List Value} {m : Str → Option Value} {h' : Heap} {t : Nat} (I : In W g A σ S) (M : MlAt g S x ls a vs m) (f1 : flatL σ.loc = true) (f2 : flatL σ.fl = true)
    (hs : Heap.SameBut a S.heap h') (hl : h'.IsList a (List.toArray vs')) (hv : StrsAre vs' (ls'.map sx)) (hd : ∃ o, h'.get? a = some o ∧ o.dict = none) : In W g A { σ with ml := some (x, ls') } { S with heap := h', toks := t } := by
  obtain ⟨oa, a1, _, na, a2⟩ := id M.lst
  have keep : ∀ b o, b ≠ a → S.heap.get? b = some o → h'.get? b = some o := fun b o n e => (hs.2 b n).trans e
  have nd : ∀ b o es n, S.heap.get? b = some o → o.data = .dict es n → b ≠ a := fun b o es n e d q => by
    rw [q, a1] at e; cases e; rw [a2] at d; cases d
  obtain ⟨oL, es, ep, l1, l2, l3⟩ := id M.ns
  have hLa : g.L ≠ a := nd _ _ _ _ l1 l2
  refine { I with st := fun b o hb => keep b o (fun q => by rw [q, M.B] at hb; cases hb) (I.st b o hb), up := fun b o hb n => ?_, ff := FunFrames.of (fun b o hb n => ?_) I.ff, fd := fun b hb => ?_, lo := ?_, ob := ?_ }
  · by_cases q : b = a
    · subst q
      obtain ⟨v, hv⟩ := M.N o hb
      exact absurd hv (n v)
    · obtain ⟨sl, h1⟩ := I.up b o hb n
      exact ⟨sl, keep b _ q h1⟩
  · by_cases q : b = a
    · subst q
      obtain ⟨o', b1, _, n', b2⟩ := hl
      exact ⟨o', b1, fun v z => by rw [b2] at z; cases z⟩
    · exact ⟨o, keep b o q hb, n⟩
  · obtain ⟨o, es, n, e1, e2⟩ := I.fd b hb
    exact ⟨o, es, n, keep b o (nd _ _ _ _ e1 e2) e1, e2⟩
  · obtain ⟨m0, hm0, hlo, _⟩ := I.lo
    obtain rfl : m = m0 := funext fun y => M.ns.agree hm0 y
    refine ⟨m, ⟨oL, es, ep, keep _ _ hLa l1, l2, l3⟩, fun y c e => ?_, ?_⟩
    · obtain ⟨u, u1, u2⟩ := hlo y c e
      exact ⟨u, u1, flat_rv (flat_at f1 e) u2⟩
    · exact ⟨a, vs', M.at_, hl, hv, M.B, M.N, hd⟩
  · have hO := I.ob
    unfold ObR at hO ⊢
    dsimp only
    cases hq : σ.ob with
    | none => trivial
    | some p =>
      obtain ⟨y, dx⟩ := p
      rw [hq] at hO
      obtain ⟨⟨sl, e1⟩, ⟨es', n', sl', d1, d2⟩, r⟩ := hO
      refine ⟨⟨sl, keep y _ (fun q => ?_) e1⟩, ⟨es', n', sl', keep dx _ (nd _ _ _ _ d1 rfl) d1, flat_ents f2 d2⟩, r⟩
      rw [q, a1] at e1; cases e1; cases a2
theorem setl_neg {prog : Program} {w : World} {A : Around} {E : Value → Shared → Prop} {s : Shared} {l : Addr} {items : Array Value} {k : Int} {t : Tok} {v : Value} {o : Obj} {ne : Nat} {Q : Unit → Shared → Prop} (hl : s.heap.IsList l items)
    (h0 : k < 0) (h1 : -(items.size : Int) ≤ k) (hfit : -(2 ^ 63) ≤ k) (ho : s.heap.get? l = some o) (hd : o.data = .seq items ne)
    (hQ : Q () { s with heap := s.heap.update l (Obj.mapSeq (·.setIfInBounds (k + items.size).toNat v)) }) :
    wpAny (model prog w) A (setItem (.ref l) (.int k t) v) Q E s := by
  unfold setItem
  try with_reducible refine wpAny_holding ?_
  first | refine wpAny_bind (wpAny_pure ?_) | skip
  refine wpAny_bind (wpAny_sequenceKey hl.typeIs (by decide) ?_)
  refine wpAny_bind (wpAny_callSpecial?_slot (name := Str.ofString "__setitem__") hl.typeIs slot_list_setitem
    (wpAny_call_entry slot_list_setitem hl.typeIs entry_list_setitem ?_ (args_list_setitem _ _ _)))
  show wpAny _ _ (Builtin.List.listSubscript? (.int k t) >>= _) _ _ s
  refine wpAny_bind (wpAny_listSubscript_int (fitsIndex_neg h0 hfit) ?_)
  clear hfit
  have hidx := seqIndex_neg h0 h1
  obtain ⟨j, rfl⟩ : ∃ j : Nat, k = Int.negSucc j := by
    cases k with
    | ofNat n => exact absurd h0 (Int.not_lt.mpr (Int.ofNat_nonneg n))
    | negSucc n => exact ⟨n, rfl⟩
  obtain ⟨i, hi⟩ : ∃ i, i = (Int.negSucc j + items.size).toNat := ⟨_, rfl⟩
  rw [← hi] at hidx hQ
  have hil : i < items.size := by omega
  have hx' : items[i]? = some items[i] := Array.getElem?_eq_getElem hil
  show wpAny _ _ ((Builtin.List.listItems (.ref l) >>= fun xs => pure ((seqIndex? (Int.negSucc j) xs.size).bind fun i => xs[i]?.map (i, ·))) >>= _) _ _ s
  refine wpAny_bind (wpAny_bind ?_)
  show wpAny _ _ (seqItems? (.ref l) >>= _) _ _ s
  refine wpAny_bind (wpAny_seqItems ho hd (wpAny_pure (wpAny_pure ?_)))
  rw [hidx]
  simp only [Option.bind_some, hx', Option.map_some]
  show wpAny _ _ (setSeqItemAt l i v >>= _) _ _ s
  refine wpAny_bind (wpAny_setSeqItemAt ho hd ?_)
  first
    | exact wpAny_bind (wpAny_pure (wpAny_pure ⟨.none, rfl, wpAny_pure hQ⟩))
    | exact wpAny_pure ⟨.none, rfl, wpAny_pure hQ⟩
section
variable {W : Wx} {fn : Fn} {loc : List (Str × AV)} {ob : Option (Addr × Addr)} {fl : List (Str × AV)}
theorem EX1.mlnew {x : Str} {p p' q : Pos} {Q : AF → St → Prop} (hx : fn.sc.names.lookup x = some .local) (hn : loc.lookup x = none) (hs : ∀ env, swapsWith (.List [] q) (some (.Name x p')) p.line env = pure false) (h : Q .next ⟨loc, ob, fl, some (x, [])⟩) :
    EX1 W fn (.Assign [.Name x p'] (.List [] q) p) ⟨loc, ob, fl, none⟩ Q := by
  refine ⟨fun g A S P E hg I k ke => ?_⟩
  subst hg
  refine wpAny_Assign_Name (wpList (ls := []) rfl (by decide) fun tk vs hv => ?_) (hs _)
  cases hv
  have up : ∀ b o, S.heap.get? b = some o → (S.heap.push { cls := .type "list", data := .seq (List.toArray []) }).get? b = some o := fun b o e => Heap.get?_push_of_some _ e
  have I1 : In W g A ⟨loc, ob, fl, none⟩ { S with heap := S.heap.push { cls := .type "list", data := .seq (List.toArray []) }, toks := tk } := I.grows up rfl rfl
  obtain ⟨m, hm, hlo, hmm⟩ := I1.lo
  refine wpAny_storeName_local (env := g.env) hx hm (fun h' hns hsb => ?_) (by show (g.fn.sc.kind == .class || (g.fn.sc.kind == .module && _)) = false; rw [I1.sk]; rfl)
  have I2 := I1.stored (t := tk) (x := x) (a := .val (.ref S.heap.objs.size)) (fun _ q => nomatch q) rfl hm hlo hmm hns hsb
  have hD : S.heap.objs.size ≠ g.L := by
    obtain ⟨m0, ⟨oL, es, ep, l1, _⟩, _⟩ := I.lo
    exact fun q => absurd (Heap.lt_size l1) (by rw [q]; exact Nat.lt_irrefl _)
  have hget : h'.get? S.heap.objs.size = some { cls := .type "list", data := .seq (List.toArray []) } := (hsb.2 _ hD).trans (Heap.get?_push_size _ rfl)
  obtain ⟨m2, hm2, hlo2, _⟩ := I2.lo
  refine k _ _ .next _ h { I2 with lo := ⟨m2, hm2, fun y a e => hlo2 y a ?_, ?_⟩, ob := I2.ob } rfl
  · show ((x, _) :: loc).lookup y = some a
    have : y ≠ x := fun q => by rw [q, hn] at e; cases e
    exact lk_skip (beq_eq_false_iff_ne.mpr this) e
  · obtain ⟨u, u1, u2⟩ := hlo2 x (.val (.ref S.heap.objs.size)) lk_here
    have u2 : u = .ref S.heap.objs.size := u2
    subst u2
    refine ⟨_, [], u1, ⟨_, hget, rfl, _, rfl⟩, .nil, I.newB, fun o e => ?_, _, hget, rfl⟩
    cases ho : o.data with
    | fields v => exact ⟨v, rfl⟩
    | _ =>
      obtain ⟨sl, e2⟩ := I.up _ o e (fun v q => by rw [ho] at q; cases q)
      exact absurd (Heap.lt_size e2) (Nat.lt_irrefl _)
theorem EV.ml {x : Str} {p : Pos} {ls : List (List Nat)} {Q : AV → St → Prop} (hx : fn.sc.names.lookup x = some .local) (hd : (x == ("__debug__" : Str)) = false) (h : Q (.strs ls) ⟨loc, ob, fl, some (x, ls)⟩) : EV W fn (.Name x p) ⟨loc, ob, fl, some (x, ls)⟩ Q :=
  EV.mlist (σ := ⟨loc, ob, fl, some (x, ls)⟩) rfl h hx hd
theorem strs_snoc {vs : List Value} {ls : List (List Nat)} {r : List Nat} {t : Tok} (h : StrsAre vs (ls.map sx)) : StrsAre (vs ++ [.str (sx r) t]) ((ls ++ [r]).map sx) := by
  rw [List.map_append]
  exact StrsAre.append' h (.cons _ _ .nil)
theorem EX1.mlapp {x y : Str} {np ap cp p yp : Pos} {ls : List (List Nat)} {r : List Nat} {Q : AF → St → Prop} (hx : fn.sc.names.lookup x = some .local) (hd : (x == ("__debug__" : Str)) = false) (hy : fn.sc.names.lookup y = some .local) (hyd : (y == ("__debug__" : Str)) = false) (hkind : fn.sc.kind = .function) (f1 : flatL loc = true) (f2 : flatL fl = true) (hz : ls.length ≤ 1000) (hl : loc.lookup y = some (.str r))
    (pl : Env → Sem Bool) (he : ∀ env, eval (.Call (.Attribute (.Name x np) "append" ap) [.Name y yp] [] cp) env = (do
      let ov ← eval (.Name x np) env
      standAt ap.atName
      let (f, first) ← holding [ov] (getMethod ov "append" (pl env))
      callWith cp f first (backTo cp (starEach [.Name y yp] env)) (backToKw cp (keywordEach [] env)))) (hs : ∀ env, swapsWith (.Call (.Attribute (.Name x np) "append" ap) [.Name y yp] [] cp) none p.line env = pure false)
    (hq : Q .next ⟨loc, ob, fl, some (x, ls ++ [r])⟩) : EX1 W fn (.Expr (.Call (.Attribute (.Name x np) "append" ap) [.Name y yp] [] cp) p) ⟨loc, ob, fl, some (x, ls)⟩ Q := by
  refine ⟨fun g A S P E hg I k ke => ?_⟩
  subst hg
  refine wpAny_Expr_any ?_ (by show (g.fn.sc.kind == .module && _) = false; rw [hkind]; rfl) (hs _)
  obtain ⟨a, vs, m, M⟩ := I.ml rfl
  obtain ⟨m0, hm0, hlo, _⟩ := I.lo
  obtain rfl : m = m0 := funext fun y => M.ns.agree hm0 y
  obtain ⟨u, u1, t, rfl⟩ := hlo y _ hl
  refine methodCall_KW (wpAny_Name (wpAny_loadName_local (env := g.env) I.sk hx M.ns M.at_ ?_) hd) (he _)
  obtain ⟨o, ho, hdn⟩ := M.nd
  obtain ⟨o2, ho2, hc, n, hdd⟩ := id M.lst
  rw [ho] at ho2; cases ho2
  refine Calls.getMethod_list_append ho hc hdn ?_
  have e0 : backTo cp (starEach [.Name y yp] g.env) = [(false, eval (.Name y yp) g.env)] := rfl
  rw [e0]
  refine Calls.callWith_builtin rfl (Calls.evalArgs_plain (Calls.spliced_cons (wpAny_Name (wpAny_loadName_local (env := g.env) I.sk hy M.ns u1 (Calls.spliced_nil ?_)) hyd)))
  have hlen := M.ss.len_eq
  rw [List.length_map] at hlen
  show wpAny W.M A (call (.builtin "list.append") [.ref a, .str (sx r) t]) _ _ S
  refine wpAny_call_entry slot_list_append M.lst.typeIs entry_list_append ?_ (args_list_append _ _)
  show wpAny _ _ (updateSeq a (·.push (.str (sx r) t)) >>= fun _ => PySem.ret .none) _ _ S
  have hz' : (List.toArray vs).size ≤ sizeLine := by rw [List.size_toArray, sizeLine_eq]; lia
  obtain ⟨n', hd'⟩ := Obj.data_mapSeq hdd (·.push (.str (sx r) t))
  refine wpAny_bind (wpAny_updateSeq ho hdd (hz := hz') (wpAny_pure ⟨.none, rfl, ?_⟩))
  have hget := Heap.get?_update_self (Obj.mapSeq (·.push (.str (sx r) t))) ho (Obj.isFreed_of_seq hd')
  refine k _ _ .next _ hq (I.mlset (t := S.toks) M f1 f2 (Heap.SameBut.update ..) (vs' := vs ++ [.str (sx r) t]) ⟨_, hget, (Obj.cls_mapSeq ..).trans hc, n', ?_⟩ (strs_snoc M.ss) ⟨_, hget, ?_⟩) rfl
  · rw [hd']; simp
  · obtain ⟨c1, c2, c3, c4⟩ := o
    dsimp only at hdd hdn
    subst hdd
    exact hdn
theorem get_last {vs : List Value} {ls : List (List Nat)} (h : StrsAre vs (ls.map sx)) (hne : ls ≠ []) : ∃ t, (List.toArray vs)[vs.length - 1]? = some (.str (sx (ls.getLast hne)) t) := by
  have hlen := h.len_eq
  rw [List.length_map] at hlen
  have hp : 0 < ls.length := List.length_pos_iff.mpr hne
  have hv : vs[vs.length - 1]? = some (vs[vs.length - 1]'(by omega)) := List.getElem?_eq_getElem (by omega)
  obtain ⟨t, ht⟩ := strs_at h hv
  refine ⟨t, ?_⟩
  rw [List.getElem?_toArray, hv, ht]
  have : ls.getD (vs.length - 1) [] = ls.getLast hne := by
    rw [List.getD_eq_getElem?_getD, hlen, List.getElem?_eq_getElem (by omega), List.getLast_eq_getElem]
    rfl
  rw [this]
theorem EV.last {W : Wx} {fn : Fn} {σ : St} {o ix : Expr} {p : Pos} {Q : AV → St → Prop} (h : EV W fn o σ fun a σ1 => ∃ ls, a = .strs ls ∧ ls.length ≤ 1000 ∧ EV W fn ix σ1 fun b σ2 => b = .int (-1) ∧ ∃ hne : ls ≠ [], Q (.str (ls.getLast hne)) σ2)
    (hs : ∀ t k u, subscripted ix false (.ref t) (.int k u) = operate [.ref t, .int k u] (getItem (.ref t) (.int k u)) := by intro _ _ _; with_unfolding_all rfl) : EV W fn (.Subscript o ix p) σ Q := by
  refine ⟨fun g A S P E hg I k => Subscript_ (h.run g A S _ E hg I fun u S1 a σ1 h1 I1 r1 s1 => ?_)⟩
  obtain ⟨ls, rfl, hz, h2⟩ := h1
  obtain ⟨b, vs, rfl, hl, hv⟩ := r1
  refine h2.run g A S1 _ E hg I1 fun v S2 c σ2 h3 I2 r2 s2 => ?_
  obtain ⟨rfl, hne, hq⟩ := h3
  obtain ⟨u, rfl⟩ := r2
  have hl2 := IsList.step hl s2
  have hlen := hv.len_eq
  rw [List.length_map] at hlen
  have hp : 0 < ls.length := List.length_pos_iff.mpr hne
  obtain ⟨t, ht⟩ := get_last hv hne
  refine tail_any hl2.typeIs slot_list_getitem.lookup (wpAny_getItem_list_neg hl2 (by decide) (by rw [List.size_toArray]; lia) (by decide) ?_ (k _ _ _ _ hq I2 ⟨t, rfl⟩ (s1.trans s2))) (hs _ _ _)
  rw [List.size_toArray, show (-1 + (vs.length : Int)).toNat = vs.length - 1 by lia]
  exact ht
theorem strs_setlast {vs : List Value} {ls : List (List Nat)} {r : List Nat} {t : Tok} (h : StrsAre vs (ls.map sx)) (hne : ls ≠ []) : StrsAre (vs.set (vs.length - 1) (.str (sx r) t)) ((ls.dropLast ++ [r]).map sx) := by
  have hlen := h.len_eq
  rw [List.length_map] at hlen
  have hp : 0 < ls.length := List.length_pos_iff.mpr hne
  have e : vs.set (vs.length - 1) (.str (sx r) t) = vs.take (vs.length - 1) ++ [.str (sx r) t] := by
    rw [List.set_eq_take_append_cons_drop, if_pos (by omega), List.drop_eq_nil_of_le (by omega)]
  rw [e, List.dropLast_eq_take]
  refine strs_snoc ?_
  rw [List.map_take, hlen]
  exact StrsAre.take' h _
theorem EX1.mlsetl {x : Str} {np p' p up cp vp : Pos} {kd kv : Nat} {ls : List (List Nat)} {r : Str} {Q : AF → St → Prop} (hx : fn.sc.names.lookup x = some .local) (hd : (x == ("__debug__" : Str)) = false) (f1 : flatL loc = true) (f2 : flatL fl = true) (hne : ls ≠ [])
    (hs : ∀ env, swapsWith (.Constant (.str r) kv vp) (some (.Subscript (.Name x np) (.UnaryOp .USub (.Constant (.int 1) kd cp) up) p')) p.line env = pure false)
    (hq : Q .next ⟨loc, ob, fl, some (x, ls.dropLast ++ [r.cps.toList])⟩) : EX1 W fn (.Assign [.Subscript (.Name x np) (.UnaryOp .USub (.Constant (.int 1) kd cp) up) p'] (.Constant (.str r) kv vp) p) ⟨loc, ob, fl, some (x, ls)⟩ Q := by
  refine ⟨fun g A S P E hg I k ke => ?_⟩
  subst hg
  refine wpAny_Assign_Subscript (wpAny_Constant_str ?_) (hs _)
  have I1 := I.toks (S.toks + 1)
  obtain ⟨a, vs, m, M⟩ := I1.ml rfl
  refine wpAny_Name (wpAny_loadName_local (env := g.env) I1.sk hx M.ns M.at_ ?_) hd
  refine UnaryOp_ (wpAny_Constant_int (PySem.P.neg_int ?_))
  obtain ⟨o, ho, hdn⟩ := M.nd
  obtain ⟨o2, ho2, hc, n, hdd⟩ := id M.lst
  rw [ho] at ho2; cases ho2
  have hlen := M.ss.len_eq
  rw [List.length_map] at hlen
  have hp : 0 < ls.length := List.length_pos_iff.mpr hne
  refine setl_neg (k := -1) M.lst (by decide) (by rw [List.size_toArray]; lia) (by decide) ho hdd ?_
  rw [List.size_toArray, show (-1 + (vs.length : Int)).toNat = vs.length - 1 by lia]
  obtain ⟨n', hd'⟩ := Obj.data_mapSeq hdd (·.setIfInBounds (vs.length - 1) (.str r S.toks))
  have hget := Heap.get?_update_self (Obj.mapSeq (·.setIfInBounds (vs.length - 1) (.str r S.toks))) ho (Obj.isFreed_of_seq hd')
  refine k _ _ .next _ hq (((I1.toks _).mlset (t := S.toks + 1 + 1 + 1) (a := a) (vs := vs) (m := m) ⟨M.ns, M.at_, M.lst, M.ss, M.B, M.N, M.nd⟩ f1 f2 (Heap.SameBut.update ..) (vs' := vs.set (vs.length - 1) (.str r S.toks)) ⟨_, hget, (Obj.cls_mapSeq ..).trans hc, n', ?_⟩ (strs_setlast (r := r.cps.toList) M.ss hne) ⟨_, hget, ?_⟩)) rfl
  · rw [hd']; simp
  · obtain ⟨c1, c2, c3, c4⟩ := o
    dsimp only at hdd hdn
    subst hdd
    exact hdn
end
end
noncomputable section
open PySem PySem.W PySem.Calls PyProof.Rows Builtin
open H (Sets fEnd KF kf_in QV looseV PW)
theorem join_sx : ∀ ls : List (List Nat), Txt.join (sx []) (ls.map sx) = sx ls.flatten := by
  intro ls
  show Builtin.Str.glued _ _ = _
  rw [StrLaws.glued_eq_join]
  induction ls with
  | nil => rfl
  | cons a r ih =>
    cases r with
    | nil => show sx a = _; simp
    | cons b r =>
      show sx a ++ sx [] ++ Str.join (sx []) ((b :: r).map sx) = _
      rw [ih, sx_append, sx_append, List.append_nil]
      rfl
noncomputable def plE (e : Expr) : Env → Sem Bool := fun env => (do return (← importBound e env).getD true)
section
variable {W : Wx} {fn : Fn} {σ : St}
theorem EV.join0 {e : Expr} {ap cp p : Pos} {kd : Nat} {s : Str} {Q : AV → St → Prop} (hs0 : s = sx []) (h : EV W fn e σ fun a σ1 => ∃ ls, a = .strs ls ∧ ls.flatten.length ≤ 2000 ∧ ls.length ≤ 1000 ∧ Q (.str ls.flatten) σ1)
    (pl : Env → Sem Bool) (he : ∀ env, eval (.Call (.Attribute (.Constant (.str s) kd cp) "join" ap) [e] [] p) env = (do
      let ov ← eval (.Constant (.str s) kd cp) env
      standAt ap.atName
      let (f, first) ← holding [ov] (getMethod ov "join" (pl env))
      callWith p f first (backTo p (starEach [e] env)) (backToKw p (keywordEach [] env)))) (hst : ∀ env, starEach [e] env = [(false, eval e env)]) : EV W fn (.Call (.Attribute (.Constant (.str s) kd cp) "join" ap) [e] [] p) σ Q := by
  refine ⟨fun g A S P E hg I k => ?_⟩
  subst hs0
  refine methodCall_KW (wpAny_Constant_str ?_) (he _)
  refine GM.join ?_
  have e0 : backTo p (starEach [e] g.env) = [(false, eval e g.env)] := by rw [hst]; rfl
  rw [e0]
  refine Calls.callWith_builtin rfl (Calls.evalArgs_plain (Calls.spliced_cons (h.run g A _ _ E hg (I.toks _) fun v S2 b σ2 h3 I2 r2 s2 => Calls.spliced_nil ?_)))
  obtain ⟨ls, rfl, hz, hz2, hq⟩ := h3
  obtain ⟨a, vs, rfl, hl, hv⟩ := r2
  have e1 : ((ls.map sx).map (·.length)).sum = ls.flatten.length := by
    rw [List.map_map, List.length_flatten]
    congr 1
  refine join_listC hl hv (by rw [sx_length]; decide) (by rw [e1, List.length_map]; lia) fun t' kk => ?_
  rw [join_sx]
  exact k _ _ _ _ hq (I2.toks _) ⟨_, rfl⟩ s2
theorem TR.and3 {x y z : Expr} {p : Pos} {Q : Bool → St → Prop} (h : TR W fn x σ fun c σ1 => if c then TR W fn y σ1 (fun c σ2 => if c then TR W fn z σ2 Q else Q false σ2) else Q false σ1) : TR W fn (.BoolOp .And [x, y, z] p) σ Q := by
  refine ⟨fun g A S P E hg I k => ?_⟩
  refine isTrue_and (h.run g A S _ E hg I fun c S' σ' hq I' s => ?_)
  cases c with
  | false => exact k _ _ _ hq I' s
  | true =>
    refine isTrue_and (hq.run g A S' _ E hg I' fun c S2 σ2 hq2 I2 s2 => ?_)
    cases c with
    | false => exact k _ _ _ hq2 I2 (s.trans s2)
    | true =>
      refine isTrue_and (hq2.run g A S2 _ E hg I2 fun c S3 σ3 hq3 I3 s3 => ?_)
      cases c with
      | false => exact k _ _ _ hq3 I3 ((s.trans s2).trans s3)
      | true => exact isTrue_and_nil (k _ _ _ hq3 I3 ((s.trans s2).trans s3))
end
namespace A
noncomputable def hatS (acc : List (List Nat)) (c : Nat) : List (List Nat) := if c = 120 ∧ acc.getLast? = some [117] then acc.dropLast ++ [[365]] else acc ++ [[c]]
noncomputable def hatted (w : List Nat) : List Nat := (w.foldl hatS []).flatten
theorem hatS_len (acc : List (List Nat)) (c : Nat) : (hatS acc c).length ≤ acc.length + 1 := by
  unfold hatS
  split
  · rw [List.length_append, List.length_dropLast]; simp only [List.length_cons, List.length_nil]; omega
  · rw [List.length_append]; exact Nat.le_refl _
set_option tactic.hygienic true in
theorem hatS_flat (acc : List (List Nat)) (c : Nat) (h : acc.flatten.length = acc.length) : (hatS acc c).flatten.length = (hatS acc c).length := by
  unfold hatS
  split
  · rename_i hc
    have h1 : acc ≠ [] := fun e => by rw [e] at hc; cases hc.2
    have h2 := List.dropLast_concat_getLast h1
    have h3 : acc.getLast h1 = [117] := by have := hc.2; rw [List.getLast?_eq_some_getLast h1] at this; exact Option.some.inj this
    rw [h3] at h2
    rw [← h2] at h
    simp only [List.flatten_append, List.length_append, List.flatten_cons, List.flatten_nil, List.append_nil, List.length_cons, List.length_nil] at h ⊢
    omega
  · simp only [List.flatten_append, List.length_append, List.flatten_cons, List.flatten_nil, List.append_nil, List.length_cons, List.length_nil]
    lia
end A
section
variable {W : Wx} {ob : Option (Addr × Addr)} {fl : List (Str × AV)} {Q : AV → List (Str × AV) → Prop}
set_option maxHeartbeats 1000000 in
theorem c_hatted {w : List Nat} (hz : w.length ≤ 500) (hfl : flatL fl = true) (h : Q (.str (A.hatted w)) fl) : CallOK W 755 0 [.str w] ob fl Q := by
  refine call_law_hatted rfl ?_
  refine EX.cons ?_
  show EX1 W F_law_hatted _ ⟨[("word", .str w)], ob, fl, none⟩ _
  refine EX1.mlnew (by kernel_rfl) (by kernel_rfl) (by intro env; rfl) ?_
  refine EX.cons ?_
  refine EX1.for_ (n := w.length) (vals := fun i => .str [w.getD i 0]) (fun i σ => ∃ l, σ = ⟨l, ob, fl, some ("signs", (w.take i).foldl A.hatS [])⟩ ∧ flatL l = true ∧ ((w.take i).foldl A.hatS []).length ≤ i ∧ ((w.take i).foldl A.hatS []).flatten.length = ((w.take i).foldl A.hatS []).length)
    (IT.str (EV.name (σ := ⟨[("word", .str w)], ob, fl, some ("signs", [])⟩) (x := "word") (by l_ints) ⟨rfl, _, rfl, rfl, Nat.le_refl _, rfl⟩ (by kernel_rfl) (by decide))) ?_ ?_
  · rintro i σ hi ⟨l, rfl, l1, hn, hn2⟩
    refine ⟨fun ls q => ?_, ?_⟩
    · have q1 : ("signs" : Str) = "sign" := congrArg Prod.fst (Option.some.inj q)
      exact absurd q1 (by decide)
    dsimp only
    obtain ⟨acc, hacc⟩ : ∃ acc, acc = (w.take i).foldl A.hatS [] := ⟨_, rfl⟩
    obtain ⟨c, hc⟩ : ∃ c, c = w.getD i 0 := ⟨_, rfl⟩
    have step : (w.take (i + 1)).foldl A.hatS [] = A.hatS acc c := by
      rw [List.take_succ, List.getElem?_eq_getElem hi, List.foldl_append, hacc, hc, List.getD_eq_getElem?_getD, List.getElem?_eq_getElem hi]
      rfl
    rw [← hacc] at hn hn2
    rw [← hacc, ← hc, step]
    clear step hacc hc
    have l2 : flatL ((("sign" : Str), AV.str [c]) :: l) = true := by unfold flatL; rw [List.all_cons]; exact l1
    have lk : ((("sign" : Str), AV.str [c]) :: l).lookup ("sign" : Str) = some (.str [c]) := lk_here
    obtain ⟨L, hL⟩ : ∃ L, L = (("sign" : Str), AV.str [c]) :: l := ⟨_, rfl⟩
    rw [← hL] at l2 lk ⊢
    have fin : ∀ acc', acc' = A.hatS acc c → ∃ l, (⟨L, ob, fl, some ("signs", acc')⟩ : St) = ⟨l, ob, fl, some ("signs", A.hatS acc c)⟩ ∧ flatL l = true ∧ (A.hatS acc c).length ≤ i + 1 ∧ (A.hatS acc c).flatten.length = (A.hatS acc c).length := fun acc' e =>
      ⟨L, by rw [e], l2, by have := A.hatS_len acc c; lia, A.hatS_flat acc c hn2⟩
    refine EX.cons (EX1.if_ (TR.and3 (TR.cmp (EV.name (σ := ⟨L, ob, fl, some ("signs", acc)⟩) lk (EV.cstr ⟨_, rfl, ?_⟩) (by kernel_rfl) (by decide)))))
    cases h2 : c == 120
    · refine ifN (by rw [beq_iff_eq]; intro e; have := (List.cons.inj e).1; rw [beq_eq_false_iff_ne] at h2; exact h2 this) ?_
      refine ifN (by decide) ?_
      refine EX.cons (EX1.mlapp (by kernel_rfl) (by decide) (by kernel_rfl) (by decide) (by kernel_rfl) l2 hfl (by omega) lk plS (by intro env; with_unfolding_all rfl) (by intro env; rfl) (EX.nil (EX.nil (fin _ ?_))))
      unfold A.hatS
      rw [if_neg (by rintro ⟨e, _⟩; rw [beq_eq_false_iff_ne] at h2; exact h2 e)]
    · rw [beq_iff_eq] at h2
      refine ifP (by rw [beq_iff_eq, h2]; rfl) ?_
      refine TR.neNil (EV.ml (by kernel_rfl) (by decide) ⟨_, rfl, ?_⟩)
      by_cases hne : acc = []
      · refine ifN (by rw [decide_eq_true_iff]; exact fun q => q hne) (ifN (by decide) ?_)
        refine EX.cons (EX1.mlapp (by kernel_rfl) (by decide) (by kernel_rfl) (by decide) (by kernel_rfl) l2 hfl (by omega) lk plS (by intro env; with_unfolding_all rfl) (by intro env; rfl) (EX.nil (EX.nil (fin _ ?_))))
        unfold A.hatS
        rw [if_neg (by rintro ⟨_, e⟩; rw [hne] at e; cases e)]
      · refine ifP (by rw [decide_eq_true_iff]; exact hne) ?_
        refine TR.cmp (EV.last (EV.ml (by kernel_rfl) (by decide) ⟨_, rfl, by omega, EV.neg (EV.cint ⟨1, rfl, rfl, hne, EV.cstr ⟨_, rfl, ?_⟩⟩)⟩))
        by_cases hu : acc.getLast hne = [117]
        · refine ifP (by rw [beq_iff_eq, hu]; rfl) ?_
          refine EX.cons (EX1.mlsetl (by kernel_rfl) (by decide) l2 hfl hne (by intro env; rfl) (EX.nil (EX.nil (fin _ ?_))))
          unfold A.hatS
          rw [if_pos ⟨h2, by rw [List.getLast?_eq_some_getLast hne, hu]⟩]
          rfl
        · refine ifN (by rw [beq_iff_eq]; exact hu) ?_
          refine EX.cons (EX1.mlapp (by kernel_rfl) (by decide) (by kernel_rfl) (by decide) (by kernel_rfl) l2 hfl (by omega) lk plS (by intro env; with_unfolding_all rfl) (by intro env; rfl) (EX.nil (EX.nil (fin _ ?_))))
          unfold A.hatS
          rw [if_neg (by rintro ⟨_, e⟩; rw [List.getLast?_eq_some_getLast hne] at e; exact hu (Option.some.inj e))]
  · rintro σ ⟨l, rfl, l1, hn, hn2⟩
    rw [List.take_length] at hn hn2 ⊢
    refine EX.cons (EX1.ret (EV.join0 rfl (EV.ml (by kernel_rfl) (by decide) ⟨_, rfl, by lia, by lia, _, .inl rfl, rfl, h⟩) (plE (.Constant (.str _) _ _)) (by intro env; with_unfolding_all rfl) (by intro env; rfl)))
end
end
noncomputable section
open PySem PySem.W PySem.Calls PyProof.Rows Builtin
open H (Sets fEnd KF kf_in QV looseV PW)
theorem iter_str {W : Wx} {g : Cx} {A : Around} {σ : St} {S : Shared} {l : List Nat} {t : Tok} {P E : Value → Shared → Prop} (I : In W g A σ S)
    (k : ∀ (o : Obj) (Stt : Nat → Heap → Prop) (Pv : Nat → Value → Prop), Walks PW W.w A S.heap.objs.size [S.heap.objs.size] [S.heap.objs.size] l.length Pv Stt → Stt 0 (S.heap.push o) → (∀ i h, Stt i h → ∃ o vs, h.get? S.heap.objs.size = some o ∧ o.data = .fields vs) →
      (∀ i v, Pv i v → ∃ t, v = .str (sx [l.getD i 0]) t) → P (.ref S.heap.objs.size) { S with heap := S.heap.push o }) : wpAny W.M A (pyIter (.str (sx l) t)) P E S := by
  have pv : ∀ i v, SignAt (sx l) i v → ∃ t, v = .str (sx [l.getD i 0]) t := fun i v hp => by
    obtain ⟨c, u, hc, rfl⟩ := hp
    refine ⟨u, ?_⟩
    have : l[i]? = some c := by simpa using hc
    show Value.str ⟨#[c]⟩ u = Value.str ⟨⟨[l.getD i 0]⟩⟩ u
    rw [List.getD_eq_getElem?_getD, this]; rfl
  cases ha : (sx l).cps.all (· < 128)
  · exact wpAny_pyIter_wide ha (k _ _ _ (Walks.strWide I.hd _ (sx l) t) ⟨_, Heap.get?_push_size _ rfl, rfl, rfl⟩ (fun i h x => let ⟨o, ho, _, hd⟩ := x; ⟨o, _, ho, hd⟩) pv)
  · exact wpAny_pyIter_ascii ha (k _ _ _ (Walks.strAscii I.hd _ (sx l) t) ⟨_, Heap.get?_push_size _ rfl, rfl, rfl⟩ (fun i h x => let ⟨o, ho, _, hd⟩ := x; ⟨o, _, ho, hd⟩) pv)
structure CT (W : Wx) (fn : Fn) (scope : Scope) (x : Str) (ct : Expr) (pr : Nat → Bool) : Prop where
  run : ∀ (g : Cx) (A : Around) (S : Shared) (C : Addr) (m : Str → Option Value) (c : Nat) (t : Tok) (E' : Value → Shared → Prop), g.fn = fn → (∀ b o, W.H.get? b = some o → S.heap.get? b = some o) → A.depth + 5 ≤ 900 →
    S.heap.Ns C m → m x = some (.str (sx [c]) t) → wpAny W.M A (isTrue ct (compEnvC scope [] C g.env) (eval ct (compEnvC scope [] C g.env))) (fun ok S' => ok = pr c ∧ Keeps S S') E' S
theorem Wx.kin (W : Wx) {h : Heap} (k : ∀ b o, W.H.get? b = some o → h.get? b = some o) : W.K.In h := fun b o e => k b o (kf_in W.sets W.os b o e)
theorem Wx.top (W : Wx) {h : Heap} (k : ∀ b o, W.H.get? b = some o → h.get? b = some o) : ∃ mg mb, TopRead QV (looseW QV looseV) mg mb h := by
  obtain ⟨mg, mb, T⟩ := W.ground
  exact ⟨mg, mb, T.keeps k⟩
noncomputable def prV (pr : Nat → Bool) : Value → Bool
  | .str s _ => pr (s.cps.toList.headD 0)
  | _ => false
theorem strs_filter {pr : Nat → Bool} : ∀ {l : List Nat} {vs : List Value}, vs.length = l.length → (∀ (j : Nat) (v : Value), vs[j]? = some v → ∃ t, v = Value.str (sx [l.getD j 0]) t) → StrsAre (vs.filter (prV pr)) (((l.filter pr).map fun c => [c]).map sx)
  | [], [], _, _ => .nil
  | c :: l, v :: vs, hl, h => by
    obtain ⟨t, rfl⟩ := h 0 v rfl
    have ih := strs_filter (pr := pr) (l := l) (vs := vs) (Nat.succ.inj hl) fun j v e => h (j + 1) v e
    show StrsAre (List.filter (prV pr) (.str (sx [c]) t :: vs)) _
    by_cases hp : pr c = true
    · rw [List.filter_cons_of_pos (by exact hp), List.filter_cons_of_pos hp]
      exact .cons _ _ ih
    · rw [List.filter_cons_of_neg (by exact hp), List.filter_cons_of_neg hp]
      exact ih
  | [], _ :: _, h, _ => by cases h
  | _ :: _, [], h, _ => by cases h
theorem paired_eq {vs ys : List Value} (h : Paired (fun v y => y = v) vs ys) : ys = vs := by
  induction h with
  | nil => rfl
  | cons e _ ih => rw [e, ih]
theorem EV.compf {W : Wx} {fn : Fn} {σ : St} {it ct : Expr} {x : Str} {px pe pos : Pos} {scope : Scope} {l : List Nat} {pr : Nat → Bool} {Q : AV → St → Prop} (T : CT W fn scope x ct pr)
    (hfree : (scope.names.all fun y => y.2 != .free && y.2 != .cell) = true) (hkind : scope.kind = .function) (hnames : (scope.names.all fun y => y.2 != .local || scope.names.lookup y.1 == some .local) = true) (hx : scope.names.lookup x = some .local) (hxd : (x == ("__debug__" : Str)) = false) (hz : l.length ≤ 1000) (hrm : 0 < fn.rm)
    (hs : ∀ env y, foldedSetIterable it env y = pure y)
    (h : EV W fn it σ fun a σ' => a = .str l ∧ Q (.strs ((l.filter pr).map fun c => [c])) σ') : EV W fn (.ListComp (.Name x pe) [⟨.Name x px, it, [ct], 0⟩] scope pos) σ Q := by
  refine ⟨fun g A S P E hg I k => ?_⟩
  have hf : ∀ y ∈ scope.names, y.2 ≠ .free ∧ y.2 ≠ .cell := fun y hy => by
    have := List.all_eq_true.mp hfree y hy
    rw [Bool.and_eq_true, bne_iff_ne, bne_iff_ne] at this
    exact this
  refine wpAny_ListComp_free (prV pr) (fun v y => y = v) (cl := []) (closureFor_none fun y hy => (hf y hy).1) (fun y hy => (hf y hy).2) hkind (fun y hy e => ?_) hx ?_ (hs _)
  · have := List.all_eq_true.mp hnames y hy
    rw [Bool.or_eq_true, bne_iff_ne, beq_iff_eq] at this
    exact this.resolve_left fun q => q e
  refine h.run g A S _ E hg I fun u S1 a σ1 h1 I1 r1 s1 => ?_
  obtain ⟨rfl, hq⟩ := h1
  obtain ⟨t, rfl⟩ := r1
  refine iter_str I1 fun o Stt Pv Wk hst hI hPv => ?_
  have up : ∀ b o', S1.heap.get? b = some o' → (S1.heap.push o).get? b = some o' := fun b o' e => Heap.get?_push_of_some _ e
  have I2 : In W g A σ1 { S1 with heap := S1.heap.push o } := I1.grows up rfl rfl
  have nB : g.B.get? S1.heap.objs.size = none := I1.newB
  have has : ∀ s₃ : Shared, (∀ b o', b ∉ [S1.heap.objs.size] → (S1.heap.push o).get? b = some o' → s₃.heap.get? b = some o') → ∀ b o', W.H.get? b = some o' → s₃.heap.get? b = some o' := fun s₃ kk b o' e => by
    have e1 := I1.bs b o' e
    exact kk b o' (fun q => by rw [List.mem_singleton.mp q, nB] at e1; cases e1) (up b o' (I1.st b o' e1))
  have hdep : A.depth + 5 ≤ 900 := by
    have hr : A.depth + 10 * g.fn.rm ≤ 900 := I1.dp
    rw [hg] at hr
    omega
  refine ⟨_, _, _, _, Pv, Stt, rfl, Wk, by rw [sizeLine_eq]; omega, hst, fun b hb => ?_, ⟨fun C i v s₃ m₃ E' hC hp hn hm kk htk => ?_, fun C i v s₃ m₃ E' hC hp _ hn hm kk htk => ?_⟩, fun D h' tk ys vs hD hl hpl hlen hP hF kk => ?_⟩
  · rw [List.mem_singleton.mp hb]
    show S1.heap.objs.size < (S1.heap.push o).objs.size
    rw [Heap.size_push]; exact Nat.lt_succ_self _
  · obtain ⟨t', rfl⟩ := hPv i v hp
    exact wpAny_tests_one (wpAny_mono (T.run g A s₃ C m₃ _ t' E' hg (has s₃ kk) hdep hn hm) (fun ok s₄ q => q) fun _ _ q => q)
  · refine wpAny_Name (wpAny_loadName_local (env := compEnvC scope [] C g.env) hkind (lookup_relabel_local hx) hn hm ⟨rfl, ⟨_, _, rfl, fun b o e => e⟩⟩) hxd
  · have I3 : In W g A σ1 { S1 with heap := h', toks := tk } := I2.moves nB (hI 0 _ hst) kk
    have st2 : Step S1.heap h' := fun b o' e n1 n2 => ⟨o'.slots, kk b o' (fun q => by rw [List.mem_singleton.mp q] at e; exact absurd (Heap.lt_size e) (Nat.lt_irrefl _)) (up b o' e)⟩
    refine k _ _ _ _ hq I3 ⟨D, ys.toList, rfl, ?_, ?_⟩ (s1.trans st2)
    · show h'.IsList D (List.toArray ys.toList)
      have : List.toArray ys.toList = ys := by simp
      rw [this]; exact hl
    · rw [paired_eq hF]
      exact strs_filter hlen fun j v e => hPv j v (hP j v e)
end
noncomputable section
open PySem PySem.W PySem.Calls PyProof.Rows Builtin
open H (Sets fEnd KF kf_in QV looseV PW)
section
variable {W : Wx} {fn : Fn} {scope : Scope} {x : Str} {np op p cp : Pos}
theorem in_keeps {A : Around} {S' : Shared} {a : Addr} {vs : List Value} {ls : List (List Nat)} {c : Nat} {t : Tok} {P : Bool → Shared → Prop} {E : Value → Shared → Prop} (hl : S'.heap.IsList a (List.toArray vs)) (hv : StrsAre vs (ls.map sx)) (h : P (ls.contains [c]) S') : wpAny W.M A (compareOp .In (.str (sx [c]) t) (.ref a)) (fun u s => wpAny W.M A (truthy u) P E s) E S' :=
  PyProof.Rows.in_list_strs hl hv (by rw [any_sx]; exact wpAny_truthy_bool h)
theorem CT.fnl {f : Str} {a : Addr} {ls : List (List Nat)} (hkind : scope.kind = .function) (hx : scope.names.lookup x = some .local) (hxd : (x == ("__debug__" : Str)) = false) (hf : ∀ g : Cx, (relabel scope g.env).names.lookup f = some .globalImplicit) (hfd : (f == ("__debug__" : Str)) = false)
    (he : nsIn W.K mainGlobals f = some (some (.ref a))) (hk : keepIn W.K (.ref a) = true)
    (hc : ∀ {A : Around} {S : Shared} {P E : Value → Shared → Prop}, W.K.In S.heap → (∃ mg mb, TopRead QV (looseW QV looseV) mg mb S.heap) → A.depth + 5 ≤ 900 → (∀ b vs S', S'.heap.IsList b (List.toArray vs) → StrsAre vs (ls.map sx) → Keeps S S' → P (.ref b) S') → wpAny W.M A (call (.ref a) []) P E S) :
    CT W fn scope x (.Compare (.Name x np) [.In] [.Call (.Name f op) [] [] cp] p) (fun c => ls.contains [c]) := by
  refine ⟨fun g A S C m c t E' hg hH hd hn hm => ?_⟩
  obtain ⟨mg, mb, T⟩ := W.top hH
  refine wpAny_isTrue_Compare1 (wpAny_Name (wpAny_loadName_local (env := compEnvC scope [] C g.env) hkind (lookup_relabel_local hx) hn hm ?_) hxd) (by with_unfolding_all rfl)
  refine wpAny_Call_ofName (Calls.Name_function_global (env := compEnvC scope [] C g.env) hkind (hf g) (Calls.loadGlobal_global (env := compEnvC scope [] C g.env) T.g (mg_of (W.kin hH) T.g he) ?_) hfd)
  refine callWith_K0 (W.kin hH) hk (hc (W.kin hH) ⟨mg, mb, T⟩ hd fun b vs S' hl hv hkp => ?_)
  exact in_keeps hl hv ⟨rfl, hkp⟩
theorem CT.lit {es : List Expr} {ls : List (List Nat)} (hkind : scope.kind = .function) (hx : scope.names.lookup x = some .local) (hxd : (x == ("__debug__" : Str)) = false) (hes : cstrs es = some ls) (hz : ls.length ≤ 1000) :
    CT W fn scope x (.Compare (.Name x np) [.In] [.List es cp] p) (fun c => ls.contains [c]) := by
  refine ⟨fun g A S C m c t E' hg hH hd hn hm => ?_⟩
  refine wpAny_isTrue_Compare1 (wpAny_Name (wpAny_loadName_local (env := compEnvC scope [] C g.env) hkind (lookup_relabel_local hx) hn hm ?_) hxd) (by with_unfolding_all rfl)
  refine wpList hes hz fun tk vs hv => ?_
  exact in_keeps strs_push hv ⟨rfl, _, _, rfl, fun b o e => Heap.get?_push_of_some _ e⟩
theorem CT.eq {ch : Nat} {s : Str} {kd : Nat} (hkind : scope.kind = .function) (hx : scope.names.lookup x = some .local) (hxd : (x == ("__debug__" : Str)) = false) (hs : s = sx [ch]) :
    CT W fn scope x (.Compare (.Name x np) [.Eq] [.Constant (.str s) kd cp] p) (fun c => c == ch) := by
  subst hs
  refine ⟨fun g A S C m c t E' hg hH hd hn hm => ?_⟩
  refine wpAny_isTrue_Compare1 (wpAny_Name (wpAny_loadName_local (env := compEnvC scope [] C g.env) hkind (lookup_relabel_local hx) hn hm ?_) hxd) (by with_unfolding_all rfl)
  refine wpAny_Constant_str (PyProof.Rows.eq_str (wpAny_truthy_bool ⟨?_, _, _, rfl, fun b o e => e⟩))
  rw [sx_beq, Bool.eq_iff_iff, beq_iff_eq, beq_iff_eq]
  exact ⟨fun e => (List.cons.inj e).1, fun e => by rw [e]⟩
theorem keeps_refl (s : Shared) : Keeps s s := ⟨_, _, rfl, fun _ _ e => e⟩
theorem keeps_trans {a b c : Shared} (h : Keeps a b) (k : Keeps b c) : Keeps a c := by
  obtain ⟨h1, t1, rfl, k1⟩ := h
  obtain ⟨h2, t2, rfl, k2⟩ := k
  exact ⟨h2, t2, rfl, fun b o e => k2 b o (k1 b o e)⟩
theorem keeps_get {a b : Shared} (h : Keeps a b) : ∀ x o, a.heap.get? x = some o → b.heap.get? x = some o := by
  obtain ⟨h1, t1, rfl, k1⟩ := h
  exact k1
theorem ns_keeps {a b : Shared} (h : Keeps a b) {C : Addr} {m : Str → Option Value} (hn : a.heap.Ns C m) : b.heap.Ns C m := by
  obtain ⟨oL, es, ep, l1, l2⟩ := hn
  exact ⟨oL, es, ep, keeps_get h _ _ l1, l2⟩
theorem CT.or {e1 e2 : Expr} {f1 f2 : Nat → Bool} (h1 : CT W fn scope x e1 f1) (h2 : CT W fn scope x e2 f2) : CT W fn scope x (.BoolOp .Or [e1, e2] p) (fun c => f1 c || f2 c) := by
  refine ⟨fun g A S C m c t E' hg hH hd hn hm => ?_⟩
  refine isTrue_or (wpAny_mono (h1.run g A S C m c t E' hg hH hd hn hm) (fun b S1 hb => ?_) fun _ _ q => q)
  obtain ⟨hb, hk⟩ := hb
  cases b with
  | true => exact ⟨by rw [← hb]; rfl, hk⟩
  | false =>
    refine isTrue_or (wpAny_mono (h2.run g A S1 C m c t E' hg (fun b o e => keeps_get hk b o (hH b o e)) hd (ns_keeps hk hn) hm) (fun b S2 hb2 => ?_) fun _ _ q => q)
    obtain ⟨hb2, hk2⟩ := hb2
    cases b with
    | true => exact ⟨by rw [← hb, ← hb2]; rfl, keeps_trans hk hk2⟩
    | false => exact isTrue_or_nil ⟨by rw [← hb, ← hb2]; rfl, keeps_trans hk hk2⟩
end
theorem EX1.compA {W : Wx} {fn : Fn} {σ : St} {it ct : Expr} {x y : Str} {px pe pos py spos : Pos} {scope : Scope} {l : List Nat} {pr : Nat → Bool} {Q : AF → St → Prop} (T : CT W fn scope x ct pr)
    (hfree : (scope.names.all fun y => y.2 != .free && y.2 != .cell) = true) (hkind : scope.kind = .function) (hnames : (scope.names.all fun y => y.2 != .local || scope.names.lookup y.1 == some .local) = true) (hx : scope.names.lookup x = some .local) (hxd : (x == ("__debug__" : Str)) = false) (hz : l.length ≤ 1000) (hrm : 0 < fn.rm)
    (hs : ∀ env y, foldedSetIterable it env y = pure y) (hy : fn.sc.names.lookup y = some .local)
    (hsw : ∀ L, swapsWith (.ListComp (.Name x pe) [⟨.Name x px, it, [ct], 0⟩] scope pos) (some (.Name y py)) spos.line (envOf fn.q fn.sc L fn.a fn.cd) = pure true)
    (h : EV W fn it σ fun a σ' => a = .str l ∧ σ'.ml = none ∧ Q .next { σ' with loc := (y, .strs ((l.filter pr).map fun c => [c])) :: σ'.loc }) : EX1 W fn (.Assign [.Name y py] (.ListComp (.Name x pe) [⟨.Name x px, it, [ct], 0⟩] scope pos) spos) σ Q := by
  refine ⟨fun g A S P E hg I k ke => ?_⟩
  have hf : ∀ y ∈ scope.names, y.2 ≠ .free ∧ y.2 ≠ .cell := fun y hy => by
    have := List.all_eq_true.mp hfree y hy
    rw [Bool.and_eq_true, bne_iff_ne, bne_iff_ne] at this
    exact this
  have hyk : g.fn.sc.names.lookup y = some .local := by rw [hg]; exact hy
  refine wpAny_Assign_ListComp_free (prV pr) (fun v y => y = v) (cl := []) (by subst hg; exact hsw g.L) (closureFor_none fun y hy => (hf y hy).1) (fun y hy => (hf y hy).2) hkind (fun y hy e => ?_) hx hyk (by show (g.fn.sc.kind == .class || (g.fn.sc.kind == .module && _)) = false; rw [I.sk]; rfl) ?_ (hs _)
  · have := List.all_eq_true.mp hnames y hy
    rw [Bool.or_eq_true, bne_iff_ne, beq_iff_eq] at this
    exact this.resolve_left fun q => q e
  refine h.run g A S _ E hg I fun u S1 a σ1 h1 I1 r1 s1 => ?_
  obtain ⟨rfl, hml, hq⟩ := h1
  obtain ⟨t, rfl⟩ := r1
  refine iter_str I1 fun o Stt Pv Wk hst hI hPv => ?_
  have up : ∀ b o', S1.heap.get? b = some o' → (S1.heap.push o).get? b = some o' := fun b o' e => Heap.get?_push_of_some _ e
  have I2 : In W g A σ1 { S1 with heap := S1.heap.push o } := I1.grows up rfl rfl
  have nB : g.B.get? S1.heap.objs.size = none := I1.newB
  have has : ∀ s₃ : Shared, (∀ b o', b ∉ [S1.heap.objs.size] → (S1.heap.push o).get? b = some o' → s₃.heap.get? b = some o') → ∀ b o', W.H.get? b = some o' → s₃.heap.get? b = some o' := fun s₃ kk b o' e => by
    have e1 := I1.bs b o' e
    exact kk b o' (fun q => by rw [List.mem_singleton.mp q, nB] at e1; cases e1) (up b o' (I1.st b o' e1))
  have hdep : A.depth + 5 ≤ 900 := by
    have hr : A.depth + 10 * g.fn.rm ≤ 900 := I1.dp
    rw [hg] at hr
    omega
  obtain ⟨m, hm, hlo, hmm⟩ := I2.lo
  have hLn : g.L ≠ S1.heap.objs.size := fun q => by
    obtain ⟨m1, ⟨oL, es, ep, l1, _⟩, _⟩ := I1.lo
    rw [q] at l1
    exact absurd (Heap.lt_size l1) (Nat.lt_irrefl _)
  refine ⟨_, _, _, _, Pv, Stt, m, rfl, Wk, by rw [sizeLine_eq]; omega, hst, fun b hb => ?_, fun q => hLn (List.mem_singleton.mp q), hm, ⟨fun C i v s₃ m₃ E' hC hp hn hm kk htk => ?_, fun C i v s₃ m₃ E' hC hp _ hn hm kk htk => ?_⟩, fun D h' tk ys vs hD hl hpl hlen hP hF hns kk => ?_⟩
  · rw [List.mem_singleton.mp hb]
    show S1.heap.objs.size < (S1.heap.push o).objs.size
    rw [Heap.size_push]; exact Nat.lt_succ_self _
  · obtain ⟨t', rfl⟩ := hPv i v hp
    exact wpAny_tests_one (wpAny_mono (T.run g A s₃ C m₃ _ t' E' hg (has s₃ kk) hdep hn hm) (fun ok s₄ q => q) fun _ _ q => q)
  · refine wpAny_Name (wpAny_loadName_local (env := compEnvC scope [] C g.env) hkind (lookup_relabel_local hx) hn hm ⟨rfl, ⟨_, _, rfl, fun b o e => e⟩⟩) hxd
  · -- the frame's name and the iterator change
    have I3 : In W g A { σ1 with loc := (y, .strs ((l.filter pr).map fun c => [c])) :: σ1.loc } { S1 with heap := h', toks := tk } := by
      have keep : ∀ b o', b ≠ g.L → S1.heap.get? b = some o' → h'.get? b = some o' := fun b o' n e => kk b o' n (fun q => by rw [List.mem_singleton.mp q] at e; exact absurd (Heap.lt_size e) (Nat.lt_irrefl _)) (up b o' e)
      have keepF : ∀ b o', ¬ Free g σ1 b → S1.heap.get? b = some o' → h'.get? b = some o' := fun b o' n e => keep b o' (fun q => n (.inl q)) e
      have st := Free.stepFrom I1 keepF
      obtain ⟨m1, hm1, hlo1, _⟩ := I1.lo
      have hmm1 : m1 = m := by
        obtain ⟨oL, es, ep, l1, l2, l3⟩ := hm1
        exact funext fun z => Heap.Ns.agree ⟨oL, es, ep, up _ _ l1, l2, l3⟩ hm z
      subst hmm1
      refine I1.upd keepF ⟨_, hns, fun z c e => ?_, ?_⟩ ?_ rfl
      · rw [List.lookup_cons] at e
        by_cases q : z = y
        · subst q
          rw [beq_self_eq_true] at e
          cases e
          refine ⟨.ref D, if_pos rfl, D, ys.toList, rfl, ?_, ?_⟩
          · have : List.toArray ys.toList = ys := by simp
            rw [this]; exact hl
          · rw [paired_eq hF]
            exact strs_filter hlen fun j v e => hPv j v (hP j v e)
        · rw [show (z == y) = false from beq_eq_false_iff_ne.mpr q] at e
          obtain ⟨v, e1, e2⟩ := hlo1 z c e
          exact ⟨v, (if_neg q).trans e1, e2.step st⟩
      · unfold MlR
        dsimp only
        rw [hml]
        trivial
      · have hO := I1.ob
        unfold ObR at hO ⊢
        dsimp only
        cases hq : σ1.ob with
        | none => trivial
        | some p =>
          obtain ⟨y, dx⟩ := p
          rw [hq] at hO
          obtain ⟨⟨sl, e1⟩, ⟨es, n, sl2, d1, d2⟩, r1, r2, r3⟩ := hO
          obtain ⟨sl', e1'⟩ := st _ _ e1 (fun _ _ z => by cases z) (fun _ z => by cases z)
          exact ⟨⟨sl', e1'⟩, ⟨es, n, sl2, keep dx _ r3 d1, d2.step st⟩, r1, r2, r3⟩
    exact k _ _ .next _ hq I3 rfl
end
noncomputable section
open PySem PySem.W PySem.Calls PyProof.Rows Builtin
open H (Sets fEnd KF kf_in QV looseV PW)
noncomputable def PR : List (List Nat) := [[109, 105], [99, 105], [118, 105], [105, 118, 105], [108, 105], [105, 108, 105], [349, 108, 105], [114, 105], [103, 105], [285, 105], [104, 105], [349, 105], [105, 349, 105], [109, 97, 108, 349, 105], [110, 105], [111, 110, 105], [115, 105]]
noncomputable def ST : List (List Nat) := [[97, 104, 97], [104, 97, 104, 97], [293, 97, 293, 97], [101, 104, 101], [111, 104, 111], [117, 104, 117], [109, 117, 117], [104, 97, 108, 101, 108, 117, 106, 97], [104, 111, 108, 97], [104, 111, 115, 97, 110, 97], [104, 117, 114, 97], [109, 97, 108, 116, 114, 97], [109, 97, 108, 116, 114, 101], [109, 97, 108, 116, 114, 111], [109, 97, 108, 112, 108, 105], [109, 97, 108, 265, 105], [109, 97, 108, 107, 97, 106], [101, 107, 100, 101], [101, 108, 100, 101], [100, 105, 115, 100, 101], [100, 105, 114, 108, 105, 100, 105, 100, 105], [97, 109, 101, 110], [116, 97, 109, 101, 110], [109, 105, 110, 117, 115]]
noncomputable def NU : List (List Nat) := [[100, 101, 107, 117, 110, 117], [100, 101, 107, 100, 117], [100, 101, 107, 116, 114, 105], [99, 101, 110, 116, 117, 110, 117], [99, 101, 110, 116, 100, 117], [99, 101, 110, 116, 116, 114, 105]]
noncomputable def PI : List (List Nat) := [[97], [101], [105], [111], [117], [98], [99], [100], [102], [103], [104], [106], [107], [108], [109], [110], [112], [114], [115], [116], [118], [122], [113], [119], [120], [121], [265], [285], [293], [309], [349], [365], [225], [233], [237], [243], [250], [48], [49], [50], [51], [52], [53], [54], [55], [56], [57], [45], [65], [78], [252], [32], [99, 120], [103, 120], [104, 120], [106, 120], [115, 120], [117, 120], [250, 120], [45, 113], [100, 111, 109], [107, 97, 116], [98, 101, 108], [109, 97, 108], [100, 101, 107], [99, 101, 110, 116], [101, 115, 116], [115, 116]]
noncomputable def AD : List (List Nat) := [[], [111], [97], [101], [105], [117], [97, 115], [105, 115], [111, 115], [117, 115], [101, 115], [111, 106], [97, 106], [111, 110], [97, 110], [101, 110], [111, 106, 110], [97, 106, 110], [110], [106], [106, 110], [45, 111], [45, 110], [45, 106], [45, 106, 110], [55, 110]]
noncomputable def SH : List (List Nat × List Nat) := [([], []), ([45], []), ([], [110]), ([45], [110]), ([], [106]), ([45], [106]), ([], [106, 110]), ([45], [106, 110])]
section
variable {W : Wx}
theorem k_PR : strsK W.K 717 = some PR := by kernel_rfl
theorem k_ST : strsK W.K 725 = some ST := by kernel_rfl
theorem k_NU : strsK W.K 726 = some NU := by kernel_rfl
theorem k_PI : strsK W.K 741 = some PI := by kernel_rfl
theorem g_PR : nsIn W.K mainGlobals "_law_pronouns" = some (some (.ref 717)) := by kernel_rfl
theorem g_ST : nsIn W.K mainGlobals "_law_stays" = some (some (.ref 725)) := by kernel_rfl
theorem g_NU : nsIn W.K mainGlobals "_law_numerals" = some (some (.ref 726)) := by kernel_rfl
theorem g_PI : nsIn W.K mainGlobals "_law_pieces" = some (some (.ref 741)) := by kernel_rfl
theorem g_lvow : nsIn W.K mainGlobals "_law_vowels" = some (some (.ref 709)) := by kernel_rfl
theorem g_ldig : nsIn W.K mainGlobals "_law_digits" = some (some (.ref 716)) := by kernel_rfl
theorem g_lheads : nsIn W.K mainGlobals "_law_heads" = some (some (.ref 724)) := by kernel_rfl
theorem g_lamong : nsIn W.K mainGlobals "_law_among" = some (some (.ref 762)) := by kernel_rfl
theorem g_lleft : nsIn W.K mainGlobals "_law_left" = some (some (.ref 767)) := by kernel_rfl
theorem g_lhat : nsIn W.K mainGlobals "_law_hatted" = some (some (.ref 755)) := by kernel_rfl
end
theorem slA_init (l : List Nat) (k : Nat) (h : k ≤ 2 ∨ k ≤ l.length) : slA l none (some ((l.length : Int) - k)) = l.take (l.length - k) := by
  unfold slA clip
  simp only [Option.elim]
  congr 1
  split <;> lia
theorem slA_last (l : List Nat) : slA l (some ((l.length : Int) - 1)) none = l.drop (l.length - 1) := by
  unfold slA clip
  simp only [Option.elim]
  have e : (max 0 (min (if (l.length : Int) - 1 < 0 then (l.length : Int) - 1 + l.length else (l.length : Int) - 1) l.length)).toNat = l.length - 1 := by split <;> lia
  rw [e]
  exact List.take_of_length_le (by rw [List.length_drop]; lia)
theorem slA_from (l : List Nat) (b : Nat) (h : b ≤ l.length) : slA l (some (b : Int)) none = l.drop b := slA_drop l b h
namespace A
noncomputable def offOf (part : List Nat) : List Nat := [[110], [106], [106, 110]].foldl (fun off t => if endsW part t then t else off) []
noncomputable def sizeOf (lft off : List Nat) : Nat :=
  if off == [] then (if LV.contains (lft.drop (lft.length - 1)) then 1 else if [[97, 115], [105, 115], [111, 115], [117, 115]].any (endsW lft) then 2 else 0)
  else if [[97], [111]].contains (lft.drop (lft.length - 1)) || (lft.drop (lft.length - 1) == [101] && off == [110]) then off.length + 1
  else if lft.drop (lft.length - 1) == [45] || LD.contains (lft.drop (lft.length - 1)) then off.length else 0
noncomputable def table (base : List Nat) : Bool := endsW (base.take (base.length - 1)) [105] && LH.contains (base.take (base.length - 2))
noncomputable def c1 (base off : List Nat) : Bool := [[], [110]].contains off && (PR.contains base || (table base && base.drop (base.length - 1) == [101]))
noncomputable def c2 (base : List Nat) : Bool := (table base && [[97], [111], [117]].contains (base.drop (base.length - 1))) || [[117, 110, 117], [97, 108, 105, 117]].contains base
noncomputable def c3 (part : List Nat) : Bool := ST.contains part || NU.any (endsW part)
noncomputable def c4 (w : List Nat) (place size : Nat) : Bool := size == 0 || (decide ((w.filter fun c => LV.contains [c]).length < 2) && (decide (place < 2) && decide (((w.filter fun c => LD.contains [c]).map fun c => [c]) = [])))
noncomputable def fin (l : List Nat) : List Nat := if endsW l [45] then l.take (l.length - 1) else l
noncomputable def left (w : List Nat) (place : Nat) : List Nat :=
  if c1 ((w.drop place).take ((w.drop place).length - (offOf (w.drop place)).length)) (offOf (w.drop place)) then w.take (w.length - (offOf (w.drop place)).length)
  else if c2 ((w.drop place).take ((w.drop place).length - (offOf (w.drop place)).length)) then w.take (w.length - (offOf (w.drop place)).length)
  else if c3 (w.drop place) then w
  else if c4 w place (sizeOf (w.take (w.length - (offOf (w.drop place)).length)) (offOf (w.drop place))) then w
  else fin (w.take (w.length - sizeOf (w.take (w.length - (offOf (w.drop place)).length)) (offOf (w.drop place))))
theorem ends_len {l e : List Nat} (h : endsW l e = true) : e.length ≤ l.length := by
  unfold endsW at h
  rw [List.isSuffixOf_iff_suffix] at h
  exact h.length_le
set_option tactic.hygienic true in
theorem off_len (p : List Nat) : (offOf p).length ≤ p.length := by
  unfold offOf
  simp only [List.foldl_cons, List.foldl_nil]
  split
  · rename_i h; exact ends_len h
  split
  · rename_i h; exact ends_len h
  split
  · rename_i h; exact ends_len h
  exact Nat.zero_le _
theorem drop_ne {l : List Nat} {x : List Nat} (h : l.drop (l.length - 1) = x) (hx : x ≠ []) : 0 < l.length := by
  rcases Nat.eq_zero_or_pos l.length with e | e
  · have : l = [] := List.length_eq_zero_iff.mp e
    subst this
    exact absurd h.symm hx
  · exact e
set_option tactic.hygienic true in
theorem size_le (lft off : List Nat) : sizeOf lft off ≤ lft.length + off.length := by
  unfold sizeOf
  split
  · split
    · rename_i h
      have : 0 < lft.length := drop_ne rfl (by intro e; rw [e] at h; exact absurd h (by decide))
      lia
    · split
      · rename_i h
        rw [List.any_eq_true] at h
        obtain ⟨e, he, h⟩ := h
        have h1 := ends_len h
        have : ∀ e ∈ [[97, 115], [105, 115], [111, 115], [117, 115]], List.length e = 2 := by decide
        have := this e he
        lia
      · exact Nat.zero_le _
  · split
    · rename_i h
      have : 0 < lft.length := drop_ne rfl (by intro e; rw [e] at h; simp at h)
      lia
    · split <;> lia
end A
section
variable {W : Wx} {fn : Fn} {σ : St} {np p : Pos} {e : Expr}
theorem lenS {Q : AV → St → Prop} (hk : fn.sc.kind = .function) (hx : fn.sc.names.lookup ("len" : Str) = some .globalImplicit) (hst : ∀ env, starEach [e] env = [(false, eval e env)]) (h : EV W fn e σ fun a σ1 => ∃ l, a = .str l ∧ l.length ≤ 1000 ∧ Q (.int l.length) σ1) : EV W fn (.Call (.Name ("len" : Str) np) [e] [] p) σ Q :=
  lenC hk hx hst (h.mono fun a σ' hh => by obtain ⟨l, rfl, hz, hq⟩ := hh; exact ⟨_, len_strA hz, hq⟩)
theorem lenL {Q : AV → St → Prop} (hk : fn.sc.kind = .function) (hx : fn.sc.names.lookup ("len" : Str) = some .globalImplicit) (hst : ∀ env, starEach [e] env = [(false, eval e env)]) (h : EV W fn e σ fun a σ1 => ∃ l, a = .strs l ∧ l.length ≤ 1000 ∧ Q (.int l.length) σ1) : EV W fn (.Call (.Name ("len" : Str) np) [e] [] p) σ Q :=
  lenC hk hx hst (h.mono fun a σ' hh => by obtain ⟨l, rfl, hz, hq⟩ := hh; exact ⟨_, blt_len rfl hz, hq⟩)
end
end
noncomputable section
open PySem PySem.W PySem.Calls PyProof.Rows Builtin
open H (Sets fEnd KF kf_in QV looseV PW)
section
noncomputable def leftDoc : Unit := ()
variable {W : Wx} {ob : Option (Addr × Addr)} {fl : List (Str × AV)} {Q : AV → List (Str × AV) → Prop}
set_option maxHeartbeats 2000000 in
theorem c_left {w : List Nat} {place : Nat} (hz : w.length ≤ 500) (hp : place ≤ w.length) (h : Q (.str (A.left w place)) fl) : CallOK W 767 1 [.str w, .int place] ob fl Q := by
  refine call_law_left rfl ?_
  show EX W F_law_left _ ⟨[("word", .str w), ("place", .int place)], ob, fl, none⟩ _
  refine EX.cons (asg (by kernel_rfl) (by intro env; rfl) (EV.slice_sn (nm (by kernel_rfl) (by kernel_rfl) (by l_ints) ⟨_, rfl, by lia, nm (by kernel_rfl) (by kernel_rfl) (by l_ints) ⟨(place : Int), rfl, ?_⟩⟩) (by intro _ _ _; rfl) (by intro _ _ _; rfl)))
  rw [slA_from _ _ hp]
  refine ⟨_, rfl, ?_⟩
  obtain ⟨part, hpart⟩ : ∃ part, part = w.drop place := ⟨_, rfl⟩
  have hpl : part.length ≤ w.length := by rw [hpart, List.length_drop]; omega
  rw [← hpart]
  walk_at "w"
  let Pq1 : St → Prop := fun σ' => ∃ l, σ' = ⟨l, ob, fl, none⟩ ∧ l.lookup ("word" : Str) = some (.str w) ∧ l.lookup ("place" : Str) = some (.int place) ∧ l.lookup ("part" : Str) = some (.str part) ∧ l.lookup ("off" : Str) = some (.str (A.offOf part))
  refine EX1.cut2 Pq1 ?_ ?_
  · refine EX1.for_ (n := 3) (vals := fun i => .str ([[110], [106], [106, 110]].getD i [])) (fun i σ => ∃ l, σ = ⟨l, ob, fl, none⟩ ∧ l.lookup ("word" : Str) = some (.str w) ∧ l.lookup ("place" : Str) = some (.int place) ∧ l.lookup ("part" : Str) = some (.str part) ∧ l.lookup ("off" : Str) = some (.str (([[110], [106], [106, 110]].take i).foldl (fun off t => if endsW part t then t else off) [])))
      (IT.strs (ls := [[110], [106], [106, 110]]) (EV.lstrs (by kernel_rfl) (by decide) ⟨rfl, rfl, _, rfl, by l_ints, by l_ints, by l_ints, lk_here⟩)) ?_ ?_
    · rintro i σ hi ⟨l, rfl, l1, l2, l3, l4⟩
      refine ⟨fun _ q => (nomatch q), ?_⟩
      dsimp only
      obtain ⟨t, ht⟩ : ∃ t, t = [[110], [106], [106, 110]].getD i [] := ⟨_, rfl⟩
      have step : ([[110], [106], [106, 110]].take (i + 1)).foldl (fun off t => if endsW part t then t else off) [] = if endsW part t then t else ([[110], [106], [106, 110]].take i).foldl (fun off t => if endsW part t then t else off) [] := by
        rw [List.take_add_one, List.foldl_append, List.getElem?_eq_getElem hi, ht, List.getD_eq_getElem?_getD, List.getElem?_eq_getElem hi]
        rfl
      rw [step, ← ht]
      clear step ht
      refine EX.cons (EX1.if_ (tplain (by intro env; rfl) ?_))
      refine EV.ends (nm (by kernel_rfl) (by kernel_rfl) (lk_skip (by kernel_rfl) l3) ⟨_, rfl, nm (by kernel_rfl) (by kernel_rfl) lk_here ⟨_, rfl, _, rfl, ?_⟩⟩) plS (by intro env; with_unfolding_all rfl) (by intro env; rfl)
      cases hc : endsW part t
      · refine ifN (by decide) ?_
        exact EX.nil (EX.nil ⟨_, rfl, lk_skip (by kernel_rfl) l1, lk_skip (by kernel_rfl) l2, lk_skip (by kernel_rfl) l3, by rw [if_neg (by decide)]; exact lk_skip (by kernel_rfl) l4⟩)
      · refine ifP rfl ?_
        refine EX.cons (asg (by kernel_rfl) (by intro env; rfl) (nm (by kernel_rfl) (by kernel_rfl) lk_here ⟨_, rfl, ?_⟩))
        exact EX.nil (EX.nil ⟨_, rfl, lk_skip (by kernel_rfl) (lk_skip (by kernel_rfl) l1), lk_skip (by kernel_rfl) (lk_skip (by kernel_rfl) l2), lk_skip (by kernel_rfl) (lk_skip (by kernel_rfl) l3), by rw [if_pos rfl]; exact lk_here⟩)
    · rintro σ ⟨l, rfl, l1, l2, l3, l4⟩
      exact ⟨l, rfl, l1, l2, l3, l4⟩
  rintro σ' ⟨l, rfl, l1, l2, l3, l4⟩
  try dsimp only
  have hol := A.off_len part
  unfold A.left at h
  rw [← hpart] at h
  obtain ⟨off, hoff⟩ : ∃ off, off = A.offOf part := ⟨_, rfl⟩
  rw [← hoff] at l4 hol h
  refine EX.cons (asg (by kernel_rfl) (by intro env; rfl) (EV.slice_ns (nm (by kernel_rfl) (by kernel_rfl) (by l_ints) ⟨_, rfl, by lia, EV.bin (lenS (by kernel_rfl) (by kernel_rfl) (by intro env; rfl) (nm (by kernel_rfl) (by kernel_rfl) (by l_ints) ⟨_, rfl, by omega, lenS (by kernel_rfl) (by kernel_rfl) (by intro env; rfl) (nm (by kernel_rfl) (by kernel_rfl) (by l_ints) ⟨_, rfl, by lia, ⟨_, rfl, _, rfl, ?_⟩⟩)⟩))⟩) (by intro _ _ _; rfl) (by intro _ _ _; rfl)))
  rw [slA_init _ _ (.inr hol)]
  refine ⟨_, rfl, ?_⟩
  refine EX.cons (asg (by kernel_rfl) (by intro env; rfl) (EV.slice_ns (nm (by kernel_rfl) (by kernel_rfl) (by l_ints) ⟨_, rfl, by lia, EV.bin (lenS (by kernel_rfl) (by kernel_rfl) (by intro env; rfl) (nm (by kernel_rfl) (by kernel_rfl) (by l_ints) ⟨_, rfl, by omega, lenS (by kernel_rfl) (by kernel_rfl) (by intro env; rfl) (nm (by kernel_rfl) (by kernel_rfl) (by l_ints) ⟨_, rfl, by omega, ⟨_, rfl, _, rfl, ?_⟩⟩)⟩))⟩) (by intro _ _ _; rfl) (by intro _ _ _; rfl)))
  rw [slA_init _ _ (.inr (by exact Nat.le_trans ‹_› ‹_›))]
  refine ⟨_, rfl, ?_⟩
  obtain ⟨base, hbase⟩ : ∃ base, base = part.take (part.length - off.length) := ⟨_, rfl⟩
  obtain ⟨lft, hlft⟩ : ∃ lft, lft = w.take (w.length - off.length) := ⟨_, rfl⟩
  rw [← hbase, ← hlft] at h ⊢
  have hbl : base.length ≤ 500 := by rw [hbase, List.length_take]; omega
  have hll : lft.length + off.length = w.length := by rw [hlft, List.length_take]; lia
  refine EX.cons (asg (by kernel_rfl) (by intro env; rfl) (EV.slice_sn (nm (by kernel_rfl) (by kernel_rfl) (by l_ints) ⟨_, rfl, by lia, EV.bin (lenS (by kernel_rfl) (by kernel_rfl) (by intro env; rfl) (nm (by kernel_rfl) (by kernel_rfl) (by l_ints) ⟨_, rfl, by omega, EV.cint ⟨_, rfl, _, rfl, ?_⟩⟩))⟩) (by intro _ _ _; rfl) (by intro _ _ _; rfl)))
  rw [slA_last]
  refine ⟨_, rfl, ?_⟩
  have slT : slA base none (some ((base.length : Int) - 1)) = base.take (base.length - 1) := slA_init base 1 (.inl (by exact Nat.succ_pos _))
  have slT2 : slA base none (some ((base.length : Int) - 2)) = base.take (base.length - 2) := slA_init base 2 (.inl (by lia))
  refine EX.cons (EX1.cut2 (fun σ' => σ' = ⟨("table", .bool (A.table base)) :: ("last", .str (base.drop (base.length - 1))) :: ("left", .str lft) :: ("base", .str base) :: l, ob, fl, none⟩) (asg (by kernel_rfl) (by intro env; rfl) ?_) ?_)
  · refine EV.and (EV.ends (EV.slice_ns (nm (by kernel_rfl) (by kernel_rfl) (by l_ints) ⟨_, rfl, by omega, EV.bin (lenS (by kernel_rfl) (by kernel_rfl) (by intro env; rfl) (nm (by kernel_rfl) (by kernel_rfl) (by l_ints) ⟨_, rfl, by omega, EV.cint ⟨_, rfl, _, rfl, ?_⟩⟩))⟩) (by intro _ _ _; rfl) (by intro _ _ _; rfl)) (plE _) (by intro env; with_unfolding_all rfl) (by intro env; rfl))
    rw [slT]
    refine ⟨_, rfl, EV.cstr ⟨_, rfl, _, rfl, ?_⟩⟩
    have key : A.table base = (endsW (base.take (base.length - 1)) [105] && LH.contains (base.take (base.length - 2))) := rfl
    show if endsW (base.take (base.length - 1)) [105] = true then _ else _
    cases hc : endsW (base.take (base.length - 1)) [105]
    · rw [if_neg (by decide)]
      refine ⟨_, rfl, ?_⟩
      show (⟨("table", .bool (endsW (base.take (base.length - 1)) [105])) :: _, _, _, _⟩ : St) = _
      rw [key, hc]
      rfl
    · refine ifP rfl ?_
      refine EV.cmp (EV.slice_ns (nm (by kernel_rfl) (by kernel_rfl) (by l_ints) ⟨_, rfl, by omega, EV.bin (lenS (by kernel_rfl) (by kernel_rfl) (by intro env; rfl) (nm (by kernel_rfl) (by kernel_rfl) (by l_ints) ⟨_, rfl, by omega, EV.cint ⟨_, rfl, _, rfl, ?_⟩⟩))⟩) (by intro _ _ _; rfl) (by intro _ _ _; rfl))
      rw [slT2]
      refine EV.fcall0 (EV.glob g_lheads ⟨rfl, c_heads ⟨_, rfl, _, rfl, by rw [key, hc]; rfl⟩⟩ (by kernel_rfl) (by kernel_rfl) (by decide)) (by kernel_rfl) (by decide)
  rintro σ' rfl
  try dsimp only
  obtain ⟨L0, hL0⟩ : ∃ L0 : List (Str × AV), L0 = (("table" : Str), AV.bool (A.table base)) :: (("last" : Str), AV.str (base.drop (base.length - 1))) :: (("left" : Str), AV.str lft) :: (("base" : Str), AV.str base) :: l := ⟨_, rfl⟩
  have m1 : L0.lookup ("word" : Str) = some (.str w) := by rw [hL0]; l_ints
  have m2 : L0.lookup ("place" : Str) = some (.int place) := by rw [hL0]; l_ints
  have m3 : L0.lookup ("part" : Str) = some (.str part) := by rw [hL0]; l_ints
  have m4 : L0.lookup ("off" : Str) = some (.str off) := by rw [hL0]; l_ints
  have m5 : L0.lookup ("base" : Str) = some (.str base) := by rw [hL0]; l_ints
  have m6 : L0.lookup ("left" : Str) = some (.str lft) := by rw [hL0]; l_ints
  have m7 : L0.lookup ("last" : Str) = some (.str (base.drop (base.length - 1))) := by rw [hL0]; l_ints
  have m8 : L0.lookup ("table" : Str) = some (.bool (A.table base)) := by rw [hL0]; l_ints
  rw [← hL0]
  clear hL0 l1 l2 l3 l4 slT slT2
  refine EX.cons (EX1.if_ (TR.mono (Q := fun c σ' => c = A.c1 base off ∧ σ' = ⟨L0, ob, fl, none⟩) ?_ fun c σ' hh => ?_))
  · refine TR.and (TR.cmp (nm (by kernel_rfl) (by kernel_rfl) (by l_ints) (EV.lstrs (ls := [[], [110]]) (by kernel_rfl) (by decide) ⟨_, rfl, ?_⟩)))
    unfold A.c1
    cases hc : [[], [110]].contains off
    · refine ifN (by decide) ?_
      exact ⟨rfl, rfl⟩
    · refine ifP rfl ?_
      refine TR.or (TR.cmp (nm (by kernel_rfl) (by kernel_rfl) (by l_ints) (EV.gstrs g_PR k_PR ⟨_, rfl, ?_⟩ (by kernel_rfl) (by kernel_rfl) (by decide))))
      cases hq : PR.contains base
      · refine ifN (by decide) ?_
        refine TR.and (tplain (by intro env; rfl) (nm (by kernel_rfl) (by kernel_rfl) (by l_ints) ⟨_, rfl, ?_⟩))
        cases ht : A.table base
        · refine ifN (by decide) ?_
          exact ⟨rfl, rfl⟩
        · refine ifP rfl ?_
          exact TR.cmp (nm (by kernel_rfl) (by kernel_rfl) (by l_ints) (EV.cstr ⟨_, rfl, rfl, rfl⟩))
      · refine ifP rfl ?_
        exact ⟨rfl, rfl⟩
  obtain ⟨rfl, rfl⟩ := hh
  cases hc1 : A.c1 base off
  case true =>
    rw [hc1, if_pos rfl] at h
    refine ifP rfl ?_
    exact EX.cons (EX1.ret (nm (by kernel_rfl) (by kernel_rfl) (by l_ints) ⟨_, .inl rfl, rfl, h⟩))
  rw [hc1, if_neg (by decide)] at h
  refine ifN (by decide) ?_
  refine EX.nil ?_
  try dsimp only
  refine EX.cons (EX1.if_ (TR.mono (Q := fun c σ' => c = A.c2 base ∧ σ' = ⟨L0, ob, fl, none⟩) ?_ fun c σ' hh => ?_))
  · unfold A.c2
    refine TR.or (TR.and (tplain (by intro env; rfl) (nm (by kernel_rfl) (by kernel_rfl) (by l_ints) ⟨_, rfl, ?_⟩)))
    cases ht : A.table base
    · refine ifN (by decide) (ifN (by decide) ?_)
      exact TR.cmp (nm (by kernel_rfl) (by kernel_rfl) (by l_ints) (EV.lstrs (ls := [[117, 110, 117], [97, 108, 105, 117]]) (by kernel_rfl) (by decide) ⟨_, rfl, rfl, rfl⟩))
    · refine ifP rfl ?_
      refine TR.cmp (nm (by kernel_rfl) (by kernel_rfl) (by l_ints) (EV.lstrs (ls := [[97], [111], [117]]) (by kernel_rfl) (by decide) ⟨_, rfl, ?_⟩))
      cases hq : [[97], [111], [117]].contains (base.drop (base.length - 1))
      · refine ifN (by decide) ?_
        exact TR.cmp (nm (by kernel_rfl) (by kernel_rfl) (by l_ints) (EV.lstrs (ls := [[117, 110, 117], [97, 108, 105, 117]]) (by kernel_rfl) (by decide) ⟨_, rfl, rfl, rfl⟩))
      · refine ifP rfl ?_
        exact ⟨rfl, rfl⟩
  obtain ⟨rfl, rfl⟩ := hh
  cases hc2 : A.c2 base
  case true =>
    rw [hc2, if_pos rfl] at h
    refine ifP rfl ?_
    exact EX.cons (EX1.ret (nm (by kernel_rfl) (by kernel_rfl) (by l_ints) ⟨_, .inl rfl, rfl, h⟩))
  rw [hc2, if_neg (by decide)] at h
  refine ifN (by decide) ?_
  refine EX.nil ?_
  try dsimp only
  refine EX.cons (EX1.if_ (TR.mono (Q := fun c σ' => c = A.c3 part ∧ σ' = ⟨L0, ob, fl, none⟩) ?_ fun c σ' hh => ?_))
  · unfold A.c3
    refine TR.or (TR.cmp (nm (by kernel_rfl) (by kernel_rfl) (by l_ints) (EV.gstrs g_ST k_ST ⟨_, rfl, ?_⟩ (by kernel_rfl) (by kernel_rfl) (by decide))))
    cases hq : ST.contains part
    · refine ifN (by decide) ?_
      refine tplain (by intro env; rfl) (EV.fcall (EV.glob g_lamong ⟨rfl, AR.cons (nm (by kernel_rfl) (by kernel_rfl) (by l_ints) (AR.cons (EV.gstrs g_NU k_NU (AR.nil (c_among ?_)) (by kernel_rfl) (by kernel_rfl) (by decide)) (by intro env; rfl))) (by intro env; rfl)⟩ (by kernel_rfl) (by kernel_rfl) (by decide)) (by kernel_rfl) (by decide) (by intro env; rfl) (by intro env; rfl))
      exact ⟨_, rfl, rfl, rfl⟩
    · refine ifP rfl ?_
      exact ⟨rfl, rfl⟩
  obtain ⟨rfl, rfl⟩ := hh
  cases hc3 : A.c3 part
  case true =>
    rw [hc3, if_pos rfl] at h
    refine ifP rfl ?_
    exact EX.cons (EX1.ret (nm (by kernel_rfl) (by kernel_rfl) (by l_ints) ⟨_, .inl rfl, rfl, h⟩))
  rw [hc3, if_neg (by decide)] at h
  refine ifN (by decide) ?_
  refine EX.nil ?_
  try dsimp only
  refine EX.cons (asg (by kernel_rfl) (by intro env; rfl) (EV.cint ⟨_, rfl, ?_⟩))
  refine EX.cons (asg (by kernel_rfl) (by intro env; rfl) (EV.slice_sn (nm (by kernel_rfl) (by kernel_rfl) (by l_ints) ⟨_, rfl, by lia, EV.bin (lenS (by kernel_rfl) (by kernel_rfl) (by intro env; rfl) (nm (by kernel_rfl) (by kernel_rfl) (by l_ints) ⟨_, rfl, by omega, EV.cint ⟨_, rfl, _, rfl, ?_⟩⟩))⟩) (by intro _ _ _; rfl) (by intro _ _ _; rfl)))
  rw [slA_last]
  refine ⟨_, rfl, ?_⟩
  obtain ⟨la, hla⟩ : ∃ la, la = lft.drop (lft.length - 1) := ⟨_, rfl⟩
  rw [← hla]
  obtain ⟨L1, hL1⟩ : ∃ L1 : List (Str × AV), L1 = (("last" : Str), AV.str la) :: (("size" : Str), AV.int 0) :: L0 := ⟨_, rfl⟩
  have n1 : L1.lookup ("word" : Str) = some (.str w) := by rw [hL1]; l_ints
  have n2 : L1.lookup ("place" : Str) = some (.int place) := by rw [hL1]; l_ints
  have n4 : L1.lookup ("off" : Str) = some (.str off) := by rw [hL1]; l_ints
  have n6 : L1.lookup ("left" : Str) = some (.str lft) := by rw [hL1]; l_ints
  have n7 : L1.lookup ("last" : Str) = some (.str la) := by rw [hL1]; l_ints
  have n8 : L1.lookup ("size" : Str) = some (.int 0) := by rw [hL1]; l_ints
  rw [← hL1]
  clear hL1 m1 m2 m3 m4 m5 m6 m7 m8
  let Pq4 : St → Prop := fun σ' => ∃ L : List (Str × AV), σ' = ⟨L, ob, fl, none⟩ ∧ L.lookup ("word" : Str) = some (.str w) ∧ L.lookup ("place" : Str) = some (.int place) ∧ L.lookup ("size" : Str) = some (.int (A.sizeOf lft off))
  refine EX.cons (EX1.cut2 Pq4 ?_ ?_)
  · have fin0 : 0 = A.sizeOf lft off → ∃ L : List (Str × AV), (⟨L1, ob, fl, none⟩ : St) = ⟨L, ob, fl, none⟩ ∧ L.lookup ("word" : Str) = some (.str w) ∧ L.lookup ("place" : Str) = some (.int place) ∧ L.lookup ("size" : Str) = some (.int (A.sizeOf lft off)) := fun e => ⟨_, rfl, n1, n2, by rw [← e]; exact n8⟩
    have finS : ∀ n : Nat, n = A.sizeOf lft off → ∃ L : List (Str × AV), (⟨(("size" : Str), AV.int n) :: L1, ob, fl, none⟩ : St) = ⟨L, ob, fl, none⟩ ∧ L.lookup ("word" : Str) = some (.str w) ∧ L.lookup ("place" : Str) = some (.int place) ∧ L.lookup ("size" : Str) = some (.int (A.sizeOf lft off)) := fun n e => ⟨_, rfl, lk_skip (by kernel_rfl) n1, lk_skip (by kernel_rfl) n2, by rw [← e]; exact lk_here⟩
    have hs : A.sizeOf lft off = (if off == [] then (if LV.contains la then 1 else if [[97, 115], [105, 115], [111, 115], [117, 115]].any (endsW lft) then 2 else 0)
      else if [[97], [111]].contains la || (la == [101] && off == [110]) then off.length + 1 else if la == [45] || LD.contains la then off.length else 0) := by rw [hla]; rfl
    refine EX1.if_ (TR.cmp (nm (by kernel_rfl) (by kernel_rfl) (by l_ints) (EV.cstr ⟨_, rfl, ?_⟩)))
    show if (off == []) = true then _ else _
    cases h0 : off == []
    · rw [h0, if_neg (by decide)] at hs
      refine ifN (by decide) ?_
      refine EX.cons (EX1.if_ (TR.mono (Q := fun c σ' => c = ([[97], [111]].contains la || (la == [101] && off == [110])) ∧ σ' = ⟨L1, ob, fl, none⟩) ?_ fun c σ' hh => ?_))
      · refine TR.or (TR.cmp (nm (by kernel_rfl) (by kernel_rfl) (by l_ints) (EV.lstrs (ls := [[97], [111]]) (by kernel_rfl) (by decide) ⟨_, rfl, ?_⟩)))
        cases hq : [[97], [111]].contains la
        · refine ifN (by decide) ?_
          refine TR.and (TR.cmp (nm (by kernel_rfl) (by kernel_rfl) (by l_ints) (EV.cstr ⟨_, rfl, ?_⟩)))
          show if (la == [101]) = true then _ else _
          cases hq2 : la == [101]
          · refine ifN (by decide) ?_
            exact ⟨rfl, rfl⟩
          · rw [if_pos rfl]
            exact TR.cmp (nm (by kernel_rfl) (by kernel_rfl) (by l_ints) (EV.cstr ⟨_, rfl, rfl, rfl⟩))
        · refine ifP rfl ?_
          exact ⟨rfl, rfl⟩
      obtain ⟨rfl, rfl⟩ := hh
      cases h1 : ([[97], [111]].contains la || (la == [101] && off == [110]))
      · rw [h1, if_neg (by decide)] at hs
        refine ifN (by decide) ?_
        refine EX.cons (EX1.if_ (TR.mono (Q := fun c σ' => c = (la == [45] || LD.contains la) ∧ σ' = ⟨L1, ob, fl, none⟩) ?_ fun c σ' hh => ?_))
        · refine TR.or (TR.cmp (nm (by kernel_rfl) (by kernel_rfl) (by l_ints) (EV.cstr ⟨_, rfl, ?_⟩)))
          show if (la == [45]) = true then _ else _
          cases hq2 : la == [45]
          · rw [if_neg (by decide)]
            exact TR.cmp (nm (by kernel_rfl) (by kernel_rfl) (by l_ints) (EV.fcall0 (EV.glob g_ldig ⟨rfl, c_digits ⟨_, rfl, rfl, rfl⟩⟩ (by kernel_rfl) (by kernel_rfl) (by decide)) (by kernel_rfl) (by decide)))
          · refine ifP rfl ?_
            exact ⟨rfl, rfl⟩
        obtain ⟨rfl, rfl⟩ := hh
        cases h2 : (la == [45] || LD.contains la)
        · rw [h2, if_neg (by decide)] at hs
          refine ifN (by decide) ?_
          exact EX.nil (EX.nil (EX.nil (fin0 hs.symm)))
        · rw [h2, if_pos rfl] at hs
          refine ifP rfl ?_
          exact EX.cons (asg (by kernel_rfl) (by intro env; rfl) (lenS (by kernel_rfl) (by kernel_rfl) (by intro env; rfl) (nm (by kernel_rfl) (by kernel_rfl) (by l_ints) ⟨_, rfl, by omega, ⟨_, rfl, EX.nil (EX.nil (EX.nil (finS _ hs.symm)))⟩⟩)))
      · rw [h1, if_pos rfl] at hs
        refine ifP rfl ?_
        exact EX.cons (asg (by kernel_rfl) (by intro env; rfl) (EV.bin (lenS (by kernel_rfl) (by kernel_rfl) (by intro env; rfl) (nm (by kernel_rfl) (by kernel_rfl) (by l_ints) ⟨_, rfl, by lia, EV.cint ⟨_, rfl, _, rfl, EX.nil (EX.nil (finS (off.length + 1) hs.symm))⟩⟩))))
    · rw [h0, if_pos rfl] at hs
      refine ifP rfl ?_
      refine EX.cons (EX1.if_ (TR.cmp (nm (by kernel_rfl) (by kernel_rfl) (by l_ints) (EV.fcall0 (EV.glob g_lvow ⟨rfl, c_vowels ⟨_, rfl, ?_⟩⟩ (by kernel_rfl) (by kernel_rfl) (by decide)) (by kernel_rfl) (by decide)))))
      cases h1 : LV.contains la
      · rw [h1, if_neg (by decide)] at hs
        refine ifN (by decide) ?_
        refine EX.cons (EX1.if_ (tplain (by intro env; rfl) (EV.fcall (EV.glob g_lamong ⟨rfl, AR.cons (nm (by kernel_rfl) (by kernel_rfl) (by l_ints) (AR.cons (EV.lstrs (ls := [[97, 115], [105, 115], [111, 115], [117, 115]]) (by kernel_rfl) (by decide) (AR.nil (c_among ?_))) (by intro env; rfl))) (by intro env; rfl)⟩ (by kernel_rfl) (by kernel_rfl) (by decide)) (by kernel_rfl) (by decide) (by intro env; rfl) (by intro env; rfl))))
        refine ⟨_, rfl, ?_⟩
        cases h2 : [[97, 115], [105, 115], [111, 115], [117, 115]].any (endsW lft)
        · rw [h2, if_neg (by decide)] at hs
          refine ifN (by decide) ?_
          exact EX.nil (EX.nil (EX.nil (fin0 hs.symm)))
        · rw [h2, if_pos rfl] at hs
          refine ifP rfl ?_
          exact EX.cons (asg (by kernel_rfl) (by intro env; rfl) (EV.cint ⟨_, rfl, EX.nil (EX.nil (EX.nil (finS 2 hs.symm)))⟩))
      · rw [h1, if_pos rfl] at hs
        refine ifP rfl ?_
        exact EX.cons (asg (by kernel_rfl) (by intro env; rfl) (EV.cint ⟨_, rfl, EX.nil (EX.nil (finS 1 hs.symm))⟩))
  rintro σ' ⟨L, rfl, l1, l2, l3⟩
  try dsimp only
  clear n1 n2 n4 n6 n7 n8
  have hsz := A.size_le lft off
  obtain ⟨size, hsize⟩ : ∃ size, size = A.sizeOf lft off := ⟨_, rfl⟩
  rw [← hsize] at h l3 hsz
  refine EX.cons (EX1.compA (l := w) (CT.fnl (by kernel_rfl) (by kernel_rfl) (by decide) (fun g => by rfl) (by decide) g_lvow (by kernel_rfl) (fun hK hT hd k => law_vowels hK hT hd k)) (by kernel_rfl) (by kernel_rfl) (by kernel_rfl) (by kernel_rfl) (by decide) (by lia) (by decide) (by intro env y; rfl) (by kernel_rfl) (by intro env; rfl) (nm (by kernel_rfl) (by kernel_rfl) (by l_ints) ⟨rfl, rfl, ?_⟩))
  refine EX.cons (EX1.compA (l := w) (CT.fnl (by kernel_rfl) (by kernel_rfl) (by decide) (fun g => by rfl) (by decide) g_ldig (by kernel_rfl) (fun hK hT hd k => law_digits hK hT hd k)) (by kernel_rfl) (by kernel_rfl) (by kernel_rfl) (by kernel_rfl) (by decide) (by omega) (by decide) (by intro env y; rfl) (by kernel_rfl) (by intro env; rfl) (nm (by kernel_rfl) (by kernel_rfl) (by l_ints) ⟨rfl, rfl, ?_⟩))
  dsimp only
  obtain ⟨L2, hL2⟩ : ∃ L2 : List (Str × AV), L2 = (("digits" : Str), AV.strs ((w.filter fun c => LD.contains [c]).map fun c => [c])) :: (("vowels" : Str), AV.strs ((w.filter fun c => LV.contains [c]).map fun c => [c])) :: L := ⟨_, rfl⟩
  have m1 : L2.lookup ("word" : Str) = some (.str w) := by rw [hL2]; l_ints
  have m2 : L2.lookup ("place" : Str) = some (.int place) := by rw [hL2]; l_ints
  have m3 : L2.lookup ("size" : Str) = some (.int size) := by rw [hL2]; l_ints
  have m4 : L2.lookup ("digits" : Str) = some (.strs ((w.filter fun c => LD.contains [c]).map fun c => [c])) := by rw [hL2]; l_ints
  have m5 : L2.lookup ("vowels" : Str) = some (.strs ((w.filter fun c => LV.contains [c]).map fun c => [c])) := by rw [hL2]; l_ints
  rw [← hL2]
  clear hL2 l1 l2 l3
  have hvl : ((w.filter fun c => LV.contains [c]).map fun c => [c]).length ≤ 1000 := by rw [List.length_map]; have := List.length_filter_le (fun c => LV.contains [c]) w; lia
  refine EX.cons (EX1.if_ (TR.mono (Q := fun c σ' => c = A.c4 w place size ∧ σ' = ⟨L2, ob, fl, none⟩) ?_ fun c σ' hh => ?_))
  · unfold A.c4
    have e1 : ((size : Int) == 0) = (size == 0) := by rw [Bool.eq_iff_iff, beq_iff_eq, beq_iff_eq]; lia
    refine TR.or (TR.cmp (nm (by kernel_rfl) (by kernel_rfl) (by l_ints) (EV.cint ⟨_, rfl, ?_⟩)))
    rw [e1]
    cases hq : size == 0
    · refine ifN (by decide) ?_
      refine TR.and3 (TR.cmp (lenL (by kernel_rfl) (by kernel_rfl) (by intro env; rfl) (nm (by kernel_rfl) (by kernel_rfl) (by l_ints) ⟨_, rfl, hvl, EV.cint ⟨_, rfl, ?_⟩⟩)))
      have e2 : decide (((((w.filter fun c => LV.contains [c]).map fun c => [c]).length : Nat) : Int) < 2) = decide ((w.filter fun c => LV.contains [c]).length < 2) := by rw [List.length_map]; congr 1; rw [eq_iff_iff]; omega
      rw [e2]
      cases hq2 : decide ((w.filter fun c => LV.contains [c]).length < 2)
      · refine ifN (by decide) ?_
        exact ⟨rfl, rfl⟩
      · refine ifP rfl ?_
        refine TR.cmp (nm (by kernel_rfl) (by kernel_rfl) (by l_ints) (EV.cint ⟨_, rfl, ?_⟩))
        have e3 : decide ((place : Int) < 2) = decide (place < 2) := by congr 1; rw [eq_iff_iff]; omega
        rw [e3]
        cases hq3 : decide (place < 2)
        · refine ifN (by decide) ?_
          exact ⟨rfl, rfl⟩
        · refine ifP rfl ?_
          exact TR.eqNil (nm (by kernel_rfl) (by kernel_rfl) (by l_ints) ⟨_, rfl, rfl, rfl⟩)
    · refine ifP rfl ?_
      exact ⟨rfl, rfl⟩
  obtain ⟨rfl, rfl⟩ := hh
  cases hc4 : A.c4 w place size
  case true =>
    rw [hc4, if_pos rfl] at h
    refine ifP rfl ?_
    exact EX.cons (EX1.ret (nm (by kernel_rfl) (by kernel_rfl) (by l_ints) ⟨_, .inl rfl, rfl, h⟩))
  rw [hc4, if_neg (by decide)] at h
  refine ifN (by decide) ?_
  refine EX.nil ?_
  try dsimp only
  refine EX.cons (asg (by kernel_rfl) (by intro env; rfl) (EV.slice_ns (nm (by kernel_rfl) (by kernel_rfl) (by l_ints) ⟨_, rfl, by omega, EV.bin (lenS (by kernel_rfl) (by kernel_rfl) (by intro env; rfl) (nm (by kernel_rfl) (by kernel_rfl) (by l_ints) ⟨_, rfl, by omega, nm (by kernel_rfl) (by kernel_rfl) (by l_ints) ⟨_, rfl, _, rfl, ?_⟩⟩))⟩) (by intro _ _ _; rfl) (by intro _ _ _; rfl)))
  rw [slA_init _ _ (.inr (by lia))]
  refine ⟨_, rfl, ?_⟩
  have hlen : (w.take (w.length - size)).length ≤ 500 := by rw [List.length_take]; omega
  obtain ⟨l2, hl2⟩ : ∃ l2, l2 = w.take (w.length - size) := ⟨_, rfl⟩
  rw [← hl2] at h hlen ⊢
  unfold A.fin at h
  refine EX.cons (EX1.ret (EV.ifexp (tplain (by intro env; rfl) (EV.ends (nm (by kernel_rfl) (by kernel_rfl) (by l_ints) ⟨_, rfl, EV.cstr ⟨_, rfl, _, rfl, ?_⟩⟩) plS (by intro env; with_unfolding_all rfl) (by intro env; rfl)))))
  show if endsW l2 [45] = true then _ else _
  cases hc : endsW l2 [45]
  · rw [hc, if_neg (by decide)] at h
    rw [if_neg (by decide)]
    exact nm (by kernel_rfl) (by kernel_rfl) (by l_ints) ⟨_, .inl rfl, rfl, h⟩
  · rw [hc, if_pos rfl] at h
    refine ifP rfl ?_
    refine EV.slice_ns (nm (by kernel_rfl) (by kernel_rfl) (by l_ints) ⟨_, rfl, by lia, EV.bin (lenS (by kernel_rfl) (by kernel_rfl) (by intro env; rfl) (nm (by kernel_rfl) (by kernel_rfl) (by l_ints) ⟨_, rfl, by omega, EV.cint ⟨_, rfl, _, rfl, ?_⟩⟩))⟩) (by intro _ _ _; rfl) (by intro _ _ _; rfl)
    have e9 : slA l2 none (some ((l2.length : Int) - 1)) = l2.take (l2.length - 1) := slA_init l2 1 (.inl (by exact Nat.succ_pos _))
    rw [e9]
    exact ⟨_, .inl rfl, rfl, h⟩
end
end
noncomputable section
open PySem PySem.W PySem.Calls PyProof.Rows Builtin
open H (Sets fEnd KF kf_in QV looseV PW)
namespace A
theorem hat_fold : ∀ (w : List Nat) (acc : List (List Nat)), acc.flatten.length = acc.length → (w.foldl hatS acc).flatten.length = (w.foldl hatS acc).length ∧ (w.foldl hatS acc).length ≤ acc.length + w.length
  | [], acc, h => ⟨h, Nat.le_refl _⟩
  | c :: w, acc, h => by
    obtain ⟨a, b⟩ := hat_fold w (hatS acc c) (hatS_flat acc c h)
    refine ⟨a, ?_⟩
    have := hatS_len acc c
    rw [List.foldl_cons, List.length_cons]
    lia
theorem hatted_len (w : List Nat) : (hatted w).length ≤ w.length := by
  obtain ⟨a, b⟩ := hat_fold w [] rfl
  unfold hatted
  rw [a]
  simpa using b
noncomputable def placeOf (u : List Nat) (n : Nat) : Nat := (List.range n).foldl (fun p k => if u.getD k 0 == 45 then k + 1 else p) 0
theorem placeOf_succ (u : List Nat) (n : Nat) : placeOf u (n + 1) = if u.getD n 0 == 45 then n + 1 else placeOf u n := by
  unfold placeOf
  rw [List.range_succ, List.foldl_append]
  rfl
theorem placeOf_le (u : List Nat) : ∀ n, placeOf u n ≤ n
  | 0 => Nat.le_refl _
  | n + 1 => by
    have := placeOf_le u n
    rw [placeOf_succ]
    split <;> lia
noncomputable def QL : List (List Nat) := [[113], [119], [120], [121]]
noncomputable def again (w : List Nat) : List Nat :=
  if ((((hatted w).drop (placeOf (hatted w) (hatted w).length)).filter fun c => QL.contains [c]).map fun c => [c]) ≠ [] then hatted w else left (hatted w) (placeOf (hatted w) (hatted w).length)
end A
section
variable {W : Wx} {ob : Option (Addr × Addr)} {fl : List (Str × AV)} {Q : AV → List (Str × AV) → Prop}
set_option maxHeartbeats 1000000 in
theorem c_again {w : List Nat} (hz : w.length ≤ 500) (hfl : flatL fl = true) (h : Q (.str (A.again w)) fl) : CallOK W 772 2 [.str w] ob fl Q := by
  refine call_law_again rfl ?_
  show EX W F_law_again _ ⟨[("word", .str w)], ob, fl, none⟩ _
  refine EX.cons (asg (by kernel_rfl) (by intro env; rfl) (EV.fcall (EV.glob g_lhat ⟨rfl, AR.cons (nm (by kernel_rfl) (by kernel_rfl) (by l_ints) (AR.nil (c_hatted hz hfl ⟨_, rfl, ?_⟩))) (by intro env; rfl)⟩ (by kernel_rfl) (by kernel_rfl) (by decide)) (by kernel_rfl) (by decide) (by intro env; rfl) (by intro env; rfl)))
  have hul := A.hatted_len w
  unfold A.again at h
  obtain ⟨u, hu⟩ : ∃ u, u = A.hatted w := ⟨_, rfl⟩
  rw [← hu] at h hul ⊢
  clear hu
  refine EX.cons (asg (by kernel_rfl) (by intro env; rfl) (EV.cint ⟨_, rfl, ?_⟩))
  let Pq1 : St → Prop := fun σ' => ∃ l, σ' = ⟨l, ob, fl, none⟩ ∧ l.lookup ("word" : Str) = some (.str u) ∧ l.lookup ("place" : Str) = some (.int (A.placeOf u u.length))
  refine EX.cons (EX1.cut2 Pq1 ?_ ?_)
  · refine EX1.for_ (n := u.length) (vals := fun i => .int i) (fun i σ => ∃ l, σ = ⟨l, ob, fl, none⟩ ∧ l.lookup ("word" : Str) = some (.str u) ∧ l.lookup ("place" : Str) = some (.int (A.placeOf u i)))
      (IT.range 0 u.length 1 (AR.cons (lenS (by kernel_rfl) (by kernel_rfl) (by intro env; rfl) (nm (by kernel_rfl) (by kernel_rfl) (by l_ints) ⟨_, rfl, by lia, AR.nil ⟨.inr (.inr ⟨rfl, rfl, rfl⟩), _, rfl, by l_ints, lk_here⟩⟩)) (by intro env; rfl))
        (small_up (by lia) (by lia) (by lia) (by lia)) (.inl rfl) (by rw [size_up]; split <;> lia) (fun i hi => by congr 1; lia) (by kernel_rfl) (by kernel_rfl) (by intro env; rfl) (by intro env; rfl)) ?_ ?_
    · rintro i σ hi ⟨l, rfl, l1, l2⟩
      refine ⟨fun _ q => (nomatch q), ?_⟩
      dsimp only
      refine EX.cons (EX1.if_ (TR.cmp (EV.item (nm (by kernel_rfl) (by kernel_rfl) (lk_skip (by kernel_rfl) l1) ⟨_, rfl, by lia, nm (by kernel_rfl) (by kernel_rfl) lk_here ⟨(i : Int), rfl, by lia, by lia, EV.cstr ⟨_, rfl, ?_⟩⟩⟩))))
      rw [Int.toNat_natCast, A.placeOf_succ]
      have e1 : ([u.getD i 0] == [45]) = (u.getD i 0 == 45) := by rw [Bool.eq_iff_iff, beq_iff_eq, beq_iff_eq]; exact ⟨fun e => (List.cons.inj e).1, fun e => by rw [e]⟩
      show if ([u.getD i 0] == [45]) = true then _ else _
      rw [e1]
      cases hc : u.getD i 0 == 45
      · refine ifN (by decide) ?_
        exact EX.nil (EX.nil ⟨_, rfl, lk_skip (by kernel_rfl) l1, by rw [if_neg (by decide)]; exact lk_skip (by kernel_rfl) l2⟩)
      · refine ifP rfl ?_
        refine EX.cons (asg (by kernel_rfl) (by intro env; rfl) (EV.bin (nm (by kernel_rfl) (by kernel_rfl) lk_here (EV.cint ⟨_, rfl, _, rfl, ?_⟩))))
        exact EX.nil (EX.nil ⟨_, rfl, lk_skip (by kernel_rfl) (lk_skip (by kernel_rfl) l1), by rw [if_pos rfl]; exact lk_here⟩)
    · rintro σ ⟨l, rfl, l1, l2⟩
      exact ⟨l, rfl, l1, l2⟩
  rintro σ' ⟨l, rfl, l1, l2⟩
  try dsimp only
  have hp := A.placeOf_le u u.length
  obtain ⟨place, hpl⟩ : ∃ p, p = A.placeOf u u.length := ⟨_, rfl⟩
  rw [← hpl] at h l2 hp
  clear hpl
  refine EX.cons (EX1.if_ (TR.neNil (EV.compf (l := u.drop place) (CT.lit (ls := A.QL) (by kernel_rfl) (by kernel_rfl) (by decide) (by kernel_rfl) (by decide)) (by kernel_rfl) (by kernel_rfl) (by kernel_rfl) (by kernel_rfl) (by decide) (by rw [List.length_drop]; lia) (by decide) (by intro env y; rfl)
    (EV.slice_sn (nm (by kernel_rfl) (by kernel_rfl) (by l_ints) ⟨_, rfl, by omega, nm (by kernel_rfl) (by kernel_rfl) (by l_ints) ⟨(place : Int), rfl, ?_⟩⟩) (by intro _ _ _; rfl) (by intro _ _ _; rfl)))))
  rw [slA_from _ _ hp]
  refine ⟨rfl, _, rfl, ?_⟩
  by_cases hc : (((u.drop place).filter fun c => A.QL.contains [c]).map fun c => [c]) ≠ []
  · rw [if_pos hc] at h
    rw [decide_eq_true hc]; refine ifP rfl ?_
    exact EX.cons (EX1.ret (nm (by kernel_rfl) (by kernel_rfl) (by l_ints) ⟨_, .inl rfl, rfl, h⟩))
  · rw [if_neg hc] at h
    rw [decide_eq_false hc]; refine ifN (by decide) ?_
    refine EX.nil ?_
    try dsimp only
    refine EX.cons (EX1.ret (EV.fcall (EV.glob g_lleft ⟨rfl, AR.cons (nm (by kernel_rfl) (by kernel_rfl) (by l_ints) (AR.cons (nm (by kernel_rfl) (by kernel_rfl) (by l_ints) (AR.nil (c_left (by exact Nat.le_trans ‹_› ‹_›) hp ⟨_, .inl rfl, rfl, h⟩))) (by intro env; rfl))) (by intro env; rfl)⟩ (by kernel_rfl) (by kernel_rfl) (by decide)) (by kernel_rfl) (by decide) (by intro env; rfl) (by intro env; rfl)))
end
end
noncomputable section
open PySem PySem.W PySem.Calls PyProof.Rows Builtin
open H (Sets fEnd KF kf_in QV looseV PW)
def gd (k : Nat) (s : List Nat) : Prop := (∀ c ∈ s, c ≠ 39) ∧ s.length ≤ k
noncomputable abbrev tabE (x y : Str) (px py qx qy pc pb pb2 pes pos : Pos) (kc : Nat) (si : Str) (it : Expr) (es : List Expr) (scope : Scope) : Expr :=
  .ListComp (.BinOp (.BinOp (.Name x qx) .Add (.Constant (.str si) kc pc) pb) .Add (.Name y qy) pb2) [⟨.Name x px, it, [], 0⟩, ⟨.Name y py, .List es pes, [], 0⟩] scope pos
section
variable {x y : Str} {px py qx qy pc pb pb2 pes pos : Pos} {kc : Nat} {si : Str} {it : Expr} {es : List Expr} {scope : Scope}
theorem turn0 (i acc : Value) (env : Env) : compTurn (tabE x y px py qx qy pc pb pb2 pes pos kc si it es scope) 0 i acc env = (do
      standAt it.pos
      match ← pyNext i with
      | none => pure (.done .next)
      | some v =>
        letOwnedTupleGo (.Name x px) i v
        assign (.Name x px) env v
        let z ← eval (.List es pes) env
        standAt pes
        let z ← foldedSetIterable (.List es pes) env z
        let _ ← runOwn (.compStart (tabE x y px py qx qy pc pb pb2 pes pos kc si it es scope) 1 (← holding [z] (pyIter z)) acc env) env
        again (.compLoop (tabE x y px py qx qy pc pb pb2 pes pos kc si it es scope) 0 i acc env)) := by rfl
theorem turn1 (i acc : Value) (env : Env) : compTurn (tabE x y px py qx qy pc pb pb2 pes pos kc si it es scope) 1 i acc env = (do
      standAt pes
      match ← pyNext i with
      | none => pure (.done .next)
      | some v =>
        letOwnedTupleGo (.Name y py) i v
        assign (.Name y py) env v
        (do let _ ← call (.builtin "list.append") [acc, ← eval (.BinOp (.BinOp (.Name x qx) .Add (.Constant (.str si) kc pc) pb) .Add (.Name y qy) pb2) env])
        again (.compLoop (tabE x y px py qx qy pc pb pb2 pes pos kc si it es scope) 1 i acc env)) := by rfl
section
variable {prog : Program} {w : World} {A : Around} {R : Result → Shared → Prop} {s : Shared} {i acc : Value} {env : Env}
theorem start1 {I2 acc0 : Addr} {j : Nat} (hit : s.heap.IsListIter I2 acc0 j)
    (h0 : codeAny (model prog w) A (.compLoop (tabE x y px py qx qy pc pb pb2 pes pos kc si it es scope) 1 (.ref I2) acc env) R s) :
    codeAny (model prog w) A (.compStart (tabE x y px py qx qy pc pb pb2 pes pos kc si it es scope) 1 (.ref I2) acc env) R s := by
  refine codeAny_of_tree ?_
  show wpAny _ _ ((compStart (tabE x y px py qx qy pc pb pb2 pes pos kc si it es scope) 1 (.ref I2) acc env).onRaise (fun x => do noteFrame x env; standAt theWindowsPlace)) _ _ s
  refine wpAny_notedAt ?_
  unfold compStart
  show wpAny _ _ (ask >>= _) _ _ s
  refine wpAny_bind (wpAny_askSetting (wpAny_ite ?_))
  have key := wpAny_pyIter_listiter (prog := prog) (w := w) (A := A) (E := notedBy (model prog w) A env fun x s' => R (.error x) s') (Q := fun it' s' => codeAny (model prog w) A (.compLoop (tabE x y px py qx qy pc pb pb2 pes pos kc si it es scope) 1 it' acc env) R s') hit h0
  split
  · first
      | exact wpAny_bind (wpAny_pure (wpAny_pure (And.intro rfl h0)))
      | exact wpAny_pure (And.intro rfl h0)
  · first
      | exact wpAny_bind (wpAny_rule (wpAny_bind (wpAny_standAt (wpAny_bind (wpAny_mono key (fun it' s' h' => wpAny_pure (And.intro rfl h')) fun _ _ x => x)))))
      | (refine wpAny_bind (wpAny_rule ?_); show wpAny _ _ (standAt pes >>= _) _ _ s; exact wpAny_bind (wpAny_standAt (wpAny_bind (wpAny_mono key (fun it' s' h' => wpAny_pure (And.intro rfl h')) fun _ _ x => x))))
end
end
section
variable {x y : Str} {px py qx qy pc pb pb2 pes pos : Pos} {kc : Nat} {si : Str} {it : Expr} {es : List Expr} {scope : Scope}
theorem tab_inner {prog : Program} {w : World} {A : Around} {R : Result → Shared → Prop} {S : Shared} {I2 a2 C D : Addr} {env : Env} {vs2 vs : List Value} {ls2 ls : List (List Nat)} {m : Str → Option Value} {hd : List Nat} {t : Tok} (hh : A.handled = none) (hC : env.locals = C) (hsi : si = sx [105])
    (hx : env.kindOf x = some .local) (hy : env.kindOf y = some .local) (hxy : x ≠ y) (hxd : (x == ("__debug__" : Str)) = false) (hyd : (y == ("__debug__" : Str)) = false) (hk : env.scope.kind = .function)
    (hst : S.heap.IsListIter I2 a2 0 ∧ S.heap.IsList a2 (List.toArray vs2)) (h2 : StrsAre vs2 (ls2.map sx)) (g2 : ∀ s ∈ ls2, gd 1 s) (hn : S.heap.Ns C m) (hm : m x = some (.str (sx hd) t)) (gh : gd 4 hd)
    (hD : S.heap.IsList D (List.toArray vs)) (hv : StrsAre vs (ls.map sx)) (g : ∀ s ∈ ls, gd 10 s) (hz : ls.length + ls2.length ≤ 900) (d1 : a2 ≠ I2) (d2 : C ≠ I2) (d3 : C ≠ a2) (d4 : D ≠ I2) (d5 : D ≠ a2) (d6 : C ≠ D)
    (k : ∀ (h' : Heap) (tk : Nat) (m' : Str → Option Value) (vs' : List Value) (ls' : List (List Nat)), h'.Ns C m' → h'.IsList D (List.toArray vs') → StrsAre vs' (ls'.map sx) → (∀ s ∈ ls', gd 10 s) → ls'.length ≤ ls.length + ls2.length → (∀ b o, b ∉ [I2, C, D] → S.heap.get? b = some o → h'.get? b = some o) → R (.ok .next) { S with heap := h', toks := tk }) :
    codeAny (model prog w) A (.compLoop (tabE x y px py qx qy pc pb pb2 pes pos kc si it es scope) 1 (.ref I2) (.ref D) env) R S := by
  have hl2 := h2.len_eq
  rw [List.length_map] at hl2
  have Wk := Walks.list (prog := prog) (w := w) hh I2 a2 d1 (List.toArray vs2)
  rw [List.size_toArray, hl2] at Wk
  let Jn : Nat → Shared → Prop := fun n s => ∃ (i : Nat) (h : Heap) (tk : Nat) (m' : Str → Option Value) (vs' : List Value) (ls' : List (List Nat)), s = { S with heap := h, toks := tk } ∧ n = ls2.length + 1 - i ∧ i ≤ ls2.length ∧ (h.IsListIter I2 a2 i ∧ h.IsList a2 (List.toArray vs2)) ∧ h.Ns C m' ∧ m' x = some (.str (sx hd) t) ∧
    h.IsList D (List.toArray vs') ∧ StrsAre vs' (ls'.map sx) ∧ (∀ s ∈ ls', gd 10 s) ∧ ls'.length ≤ ls.length + i ∧ (∀ b o, b ∉ [I2, C, D] → S.heap.get? b = some o → h.get? b = some o)
  refine codeAny_loop rfl Jn (fun n s hI => ?_) (ls2.length + 1) ⟨0, S.heap, S.toks, m, vs, ls, rfl, rfl, Nat.zero_le _, hst, hn, hm, hD, hv, g, Nat.le_refl _, fun _ _ _ e => e⟩
  obtain ⟨i, h, tk, m', vs', ls', rfl, rfl, hi, hst', hn', hm', hD', hv', g', hz', hk'⟩ := hI
  show wpAny _ A ((compTurn (tabE x y px py qx qy pc pb pb2 pes pos kc si it es scope) 1 (.ref I2) (.ref D) env).onRaise (fun x => do noteFrame x env; theTreesLotGoes x)) _ _ _
  refine wpAny_noted ?_
  rw [turn1]
  refine wpAny_bind (wpAny_standAt (wpAny_bind ?_))
  by_cases hlt : i < ls2.length
  · refine Wk.item i _ _ _ hlt hst' fun v h2' tk2 hp hst2 hk2 => ?_
    obtain ⟨t2, ht2⟩ := strs_at h2 (show vs2[i]? = some v by simpa using hp)
    obtain ⟨la, hla⟩ : ∃ la, la = ls2.getD i [] := ⟨_, rfl⟩
    rw [← hla] at ht2
    have gla : gd 1 la := by
      rw [hla, List.getD_eq_getElem?_getD, List.getElem?_eq_getElem hlt]
      exact g2 _ (List.getElem_mem hlt)
    subst ht2
    have hn2 : h2'.Ns C m' := hn'.at' fun o e => hk2 _ o (by simpa using d2) e
    have hD2 : h2'.IsList D (List.toArray vs') := by
      obtain ⟨o, e, r⟩ := hD'
      exact ⟨o, hk2 _ o (by simpa using d4) e, r⟩
    dsimp only
    refine wpAny_bind (wpAny_pure (wpAny_bind ?_))
    refine wpAny_assign_Name (wpAny_storeName_local hy (by rw [hC]; exact hn2) (fun h3 hn3 hs3 => ?_) (by rw [hk]; rfl))
    rw [hC] at hn3 hs3
    have hst3 : h3.IsListIter I2 a2 (i + 1) ∧ h3.IsList a2 (List.toArray vs2) := by
      obtain ⟨⟨o, e, r⟩, o2, e2, r2⟩ := hst2
      exact ⟨⟨o, (hs3.2 _ (Ne.symm d2)).trans e, r⟩, o2, (hs3.2 _ (Ne.symm d3)).trans e2, r2⟩
    have hD3 : h3.IsList D (List.toArray vs') := by
      obtain ⟨o, e, r⟩ := hD2
      exact ⟨o, (hs3.2 _ (Ne.symm d6)).trans e, r⟩
    refine wpAny_bind (wpAny_bind ?_)
    have q1 : (if x = y then some (Value.str (sx la) t2) else m' x) = some (.str (sx hd) t) := (if_neg hxy).trans hm'
    refine wpAny_BinOp (wpAny_BinOp (wpAny_Name (wpAny_loadName_local (env := env) hk hx (by rw [hC]; exact hn3) q1 ?_) hxd))
    refine wpAny_Constant_str (PyProof.Rows.add_str (fun t3 tk3 => ?_) (by rw [hsi, sx_length, sx_length, sizeLine_eq]; have := gh.2; simp only [List.length_cons, List.length_nil]; lia))
    refine wpAny_Name (wpAny_loadName_local (env := env) hk hy (by rw [hC]; exact hn3) (if_pos rfl) ?_) hyd
    rw [hsi, sx_append]
    refine PyProof.Rows.add_str (fun t4 tk4 => ?_) (by rw [sx_length, sx_length, sizeLine_eq, List.length_append]; have := gh.2; have := gla.2; simp only [List.length_cons, List.length_nil]; lia)
    rw [sx_append]
    have hvl := hv'.len_eq
    rw [List.length_map] at hvl
    refine wpAny_bind (wpAny_list_append hD3 (fun h4 hl4 hs4 => ?_) (by rw [List.size_toArray, sizeLine_eq]; lia))
    refine wpAny_pure (wpAny_pure ⟨rfl, ls2.length + 1 - (i + 1), by lia, i + 1, h4, _, (fun z => if z = y then some (Value.str (sx la) t2) else m' z), vs' ++ [.str (sx (hd ++ [105] ++ la)) t4], ls' ++ [hd ++ [105] ++ la], rfl, rfl, hlt, ?_, ?_, q1, ?_, strs_snoc hv', ?_, ?_, ?_⟩)
    · obtain ⟨⟨o, e, r⟩, o2, e2, r2⟩ := hst3
      exact ⟨⟨o, (hs4.2 _ (Ne.symm d4)).trans e, r⟩, o2, (hs4.2 _ (Ne.symm d5)).trans e2, r2⟩
    · exact hn3.at' fun o e => (hs4.2 _ d6).trans e
    · rw [show List.toArray (vs' ++ [.str (sx (hd ++ [105] ++ la)) t4]) = (List.toArray vs').push (.str (sx (hd ++ [105] ++ la)) t4) by simp]
      exact hl4
    · intro s hs
      rcases List.mem_append.mp hs with hs | hs
      · exact g' s hs
      · obtain rfl := List.mem_singleton.mp hs
        refine ⟨fun c hc => ?_, ?_⟩
        · rcases List.mem_append.mp hc with hc | hc
          · rcases List.mem_append.mp hc with hc | hc
            · exact gh.1 c hc
            · obtain rfl := List.mem_singleton.mp hc
              decide
          · exact gla.1 c hc
        · have := gh.2
          have := gla.2
          simp only [List.length_append, List.length_cons, List.length_nil]
          lia
    · simp only [List.length_append, List.length_cons, List.length_nil]; lia
    · intro b o hb e
      simp only [List.mem_cons, List.not_mem_nil, or_false, not_or] at hb
      have e1 := hk' b o (by simp [hb]) e
      have e2 := hk2 b o (by simp [hb]) e1
      exact (hs4.2 _ hb.2.2).trans ((hs3.2 _ hb.2.1).trans e2)
  · obtain rfl : i = ls2.length := by lia
    refine Wk.done _ _ _ hst' fun h2' tk2 hk2 => ?_
    refine wpAny_pure (k h2' tk2 m' vs' ls' (hn'.at' fun o e => hk2 _ o (by simpa using d2) e) ?_ hv' g' hz' fun b o hb e => ?_)
    · obtain ⟨o, e, r⟩ := hD'
      exact ⟨o, hk2 _ o (by simpa using d4) e, r⟩
    · simp only [List.mem_cons, List.not_mem_nil, or_false, not_or] at hb
      exact hk2 b o (by simp [hb]) (hk' b o (by simp [hb]) e)
end
section
variable {x y : Str} {px py qx qy pc pb pb2 pes pos : Pos} {kc : Nat} {si : Str} {it : Expr} {es : List Expr} {scope : Scope}
theorem tab_outer {W : Wx} {A : Around} {R : Result → Shared → Prop} {S : Shared} {I1 a1 C D : Addr} {env : Env} {vs1 : List Value} {ls1 ls2 : List (List Nat)} {m : Str → Option Value} (hh : A.handled = none) (hC : env.locals = C) (hsi : si = sx [105])
    (hx : env.kindOf x = some .local) (hy : env.kindOf y = some .local) (hxy : x ≠ y) (hxd : (x == ("__debug__" : Str)) = false) (hyd : (y == ("__debug__" : Str)) = false) (hk : env.scope.kind = .function)
    (hes : cstrs es = some ls2) (hz2 : ls2.length ≤ 8) (g2 : ∀ s ∈ ls2, gd 1 s)
    (hst : S.heap.IsListIter I1 a1 0 ∧ S.heap.IsList a1 (List.toArray vs1)) (h1 : StrsAre vs1 (ls1.map sx)) (g1 : ∀ s ∈ ls1, gd 4 s) (hz1 : ls1.length ≤ 100) (hn : S.heap.Ns C m)
    (hD : S.heap.IsList D (List.toArray [])) (d1 : a1 ≠ I1) (d2 : C ≠ I1) (d3 : C ≠ a1) (d4 : D ≠ I1) (d5 : D ≠ a1) (d6 : C ≠ D)
    (k : ∀ (h' : Heap) (tk : Nat) (m' : Str → Option Value) (vs' : List Value) (ls' : List (List Nat)), h'.Ns C m' → h'.IsList D (List.toArray vs') → StrsAre vs' (ls'.map sx) → (∀ s ∈ ls', gd 10 s) → ls'.length ≤ 8 * ls1.length → (∀ b o, b ∉ [I1, C, D] → S.heap.get? b = some o → h'.get? b = some o) → R (.ok .next) { S with heap := h', toks := tk }) :
    codeAny W.M A (.compLoop (tabE x y px py qx qy pc pb pb2 pes pos kc si it es scope) 0 (.ref I1) (.ref D) env) R S := by
  have hl1 := h1.len_eq
  rw [List.length_map] at hl1
  have Wk := Walks.list (prog := PW) (w := W.w) hh I1 a1 d1 (List.toArray vs1)
  rw [List.size_toArray, hl1] at Wk
  let Jn : Nat → Shared → Prop := fun n s => ∃ (i : Nat) (h : Heap) (tk : Nat) (m' : Str → Option Value) (vs' : List Value) (ls' : List (List Nat)), s = { S with heap := h, toks := tk } ∧ n = ls1.length + 1 - i ∧ i ≤ ls1.length ∧ (h.IsListIter I1 a1 i ∧ h.IsList a1 (List.toArray vs1)) ∧ h.Ns C m' ∧
    h.IsList D (List.toArray vs') ∧ StrsAre vs' (ls'.map sx) ∧ (∀ s ∈ ls', gd 10 s) ∧ ls'.length ≤ 8 * i ∧ (∀ b o, b ∉ [I1, C, D] → S.heap.get? b = some o → h.get? b = some o)
  refine codeAny_loop rfl Jn (fun n s hI => ?_) (ls1.length + 1) ⟨0, S.heap, S.toks, m, [], [], rfl, rfl, Nat.zero_le _, hst, hn, hD, .nil, (fun _ q => nomatch q), Nat.le_refl _, fun _ _ _ e => e⟩
  obtain ⟨i, h, tk, m', vs', ls', rfl, rfl, hi, hst', hn', hD', hv', g', hz', hk'⟩ := hI
  show wpAny _ A ((compTurn (tabE x y px py qx qy pc pb pb2 pes pos kc si it es scope) 0 (.ref I1) (.ref D) env).onRaise (fun x => do noteFrame x env; theTreesLotGoes x)) _ _ _
  refine wpAny_noted ?_
  rw [turn0]
  refine wpAny_bind (wpAny_standAt (wpAny_bind ?_))
  by_cases hlt : i < ls1.length
  · refine Wk.item i _ _ _ hlt hst' fun v h2' tk2 hp hst2 hk2 => ?_
    obtain ⟨t2, ht2⟩ := strs_at h1 (show vs1[i]? = some v by simpa using hp)
    obtain ⟨la, hla⟩ : ∃ la, la = ls1.getD i [] := ⟨_, rfl⟩
    rw [← hla] at ht2
    have gla : gd 4 la := by
      rw [hla, List.getD_eq_getElem?_getD, List.getElem?_eq_getElem hlt]
      exact g1 _ (List.getElem_mem hlt)
    subst ht2
    have hn2 : h2'.Ns C m' := hn'.at' fun o e => hk2 _ o (by simpa using d2) e
    have hD2 : h2'.IsList D (List.toArray vs') := by
      obtain ⟨o, e, r⟩ := hD'
      exact ⟨o, hk2 _ o (by simpa using d4) e, r⟩
    dsimp only
    refine wpAny_bind (wpAny_pure (wpAny_bind ?_))
    refine wpAny_assign_Name (wpAny_storeName_local hx (by rw [hC]; exact hn2) (fun h3 hn3 hs3 => ?_) (by rw [hk]; rfl))
    rw [hC] at hn3 hs3
    have hst3 : h3.IsListIter I1 a1 (i + 1) ∧ h3.IsList a1 (List.toArray vs1) := by
      obtain ⟨⟨o, e, r⟩, o2, e2, r2⟩ := hst2
      exact ⟨⟨o, (hs3.2 _ (Ne.symm d2)).trans e, r⟩, o2, (hs3.2 _ (Ne.symm d3)).trans e2, r2⟩
    have hD3 : h3.IsList D (List.toArray vs') := by
      obtain ⟨o, e, r⟩ := hD2
      exact ⟨o, (hs3.2 _ (Ne.symm d6)).trans e, r⟩
    refine wpAny_bind (wpList hes (by lia) fun tk4 vs2 hs2 => ?_)
    refine wpAny_bind (wpAny_standAt (wpAny_bind (wpAny_pure (wpAny_bind (wpAny_holding ?_)))))
    generalize hH4 : h3.push { cls := .type "list", data := .seq (List.toArray vs2) } = H4
    have up4 : ∀ b o, h3.get? b = some o → H4.get? b = some o := fun b o e => by rw [← hH4]; exact Heap.get?_push_of_some _ e
    have hl4 : H4.IsList h3.objs.size (List.toArray vs2) := by rw [← hH4]; exact strs_push
    have sz4 : H4.objs.size = h3.objs.size + 1 := by rw [← hH4, Heap.size_push]
    refine wpAny_pyIter_list hl4 ?_
    dsimp only
    have up5 : ∀ b o, H4.get? b = some o → (H4.push { cls := .type "list_iterator", data := .fields #[.ref h3.objs.size, .int 0 0] }).get? b = some o := fun b o e => Heap.get?_push_of_some _ e
    have lt3 : ∀ b o, h3.get? b = some o → b < h3.objs.size := fun b o e => Heap.lt_size e
    have ltD : D < h3.objs.size := by obtain ⟨o, e, _⟩ := hD3; exact lt3 _ _ e
    have ltC : C < h3.objs.size := by obtain ⟨o, es, ep, e, _⟩ := hn3; exact lt3 _ _ e
    have ltI : I1 < h3.objs.size := by obtain ⟨⟨o, e, _⟩, _⟩ := hst3; exact lt3 _ _ e
    have lta : a1 < h3.objs.size := by obtain ⟨_, o, e, _⟩ := hst3; exact lt3 _ _ e
    have hsl := hs2.len_eq
    rw [List.length_map] at hsl
    refine wpAny_bind (wpAny_runOwn (h := none) (start1 (acc0 := h3.objs.size) (j := 0) ?_ (tab_inner (I2 := H4.objs.size) (a2 := h3.objs.size) (C := C) (D := D) (hd := la) (t := t2) (vs2 := vs2) (ls2 := ls2) (vs := vs') (ls := ls') ?_ hC hsi hx hy hxy hxd hyd hk
      ⟨?_, ?_⟩ hs2 g2 (m := fun z => if z = x then some (Value.str (sx la) t2) else m' z) ?_ (if_pos rfl) gla ?_ hv' g' (by lia) (Nat.ne_of_lt (by rw [sz4]; exact Nat.lt_succ_self _)) (Nat.ne_of_lt (by rw [sz4]; exact Nat.lt_succ_of_lt ltC)) (Nat.ne_of_lt ltC) (Nat.ne_of_lt (by rw [sz4]; exact Nat.lt_succ_of_lt ltD)) (Nat.ne_of_lt ltD) d6 fun h6 tk6 m6 vs6 ls6 hn6 hD6 hv6 g6 hz6 hk6 => ?_)))
    · exact ⟨_, Heap.get?_push_size _ rfl, rfl, rfl⟩
    · show Option.or none A.handled = none
      rw [hh]; rfl
    · exact ⟨_, Heap.get?_push_size _ rfl, rfl, rfl⟩
    · obtain ⟨o, e, r⟩ := hl4
      exact ⟨o, up5 _ _ e, r⟩
    · exact hn3.at' fun o e => up5 _ _ (up4 _ _ e)
    · obtain ⟨o, e, r⟩ := hD3
      exact ⟨o, up5 _ _ (up4 _ _ e), r⟩
    refine wpAny_pure ⟨rfl, ls1.length + 1 - (i + 1), by lia, i + 1, h6, tk6, m6, vs6, ls6, rfl, rfl, hlt, ?_, hn6, hD6, hv6, g6, by lia, fun b o hb e => ?_⟩
    · obtain ⟨⟨o, e, r⟩, o2, e2, r2⟩ := hst3
      refine ⟨⟨o, hk6 _ o ?_ (up5 _ _ (up4 _ _ e)), r⟩, o2, hk6 _ o2 ?_ (up5 _ _ (up4 _ _ e2)), r2⟩
      · simp only [List.mem_cons, List.not_mem_nil, or_false, not_or]
        exact ⟨Nat.ne_of_lt (by rw [sz4]; exact Nat.lt_succ_of_lt ltI), Ne.symm d2, Ne.symm d4⟩
      · simp only [List.mem_cons, List.not_mem_nil, or_false, not_or]
        exact ⟨Nat.ne_of_lt (by rw [sz4]; exact Nat.lt_succ_of_lt lta), Ne.symm d3, Ne.symm d5⟩
    · simp only [List.mem_cons, List.not_mem_nil, or_false, not_or] at hb
      have e1 := hk' b o (by simp [hb]) e
      have e2 := hk2 b o (by simp [hb]) e1
      have e3 := (hs3.2 _ hb.2.1).trans e2
      refine hk6 b o ?_ (up5 _ _ (up4 _ _ e3))
      have := lt3 _ _ e3
      simp only [List.mem_cons, List.not_mem_nil, or_false, not_or]
      exact ⟨Nat.ne_of_lt (by rw [sz4]; exact Nat.lt_succ_of_lt this), hb.2.1, hb.2.2⟩
  · obtain rfl : i = ls1.length := by omega
    refine Wk.done _ _ _ hst' fun h2' tk2 hk2 => ?_
    refine wpAny_pure (k h2' tk2 m' vs' ls' (hn'.at' fun o e => hk2 _ o (by simpa using d2) e) ?_ hv' g' hz' fun b o hb e => ?_)
    · obtain ⟨o, e, r⟩ := hD'
      exact ⟨o, hk2 _ o (by simpa using d4) e, r⟩
    · simp only [List.mem_cons, List.not_mem_nil, or_false, not_or] at hb
      exact hk2 b o (by simp [hb]) (hk' b o (by simp [hb]) e)
end
end
noncomputable section
open PySem PySem.W PySem.Calls PyProof.Rows Builtin
open H (Sets fEnd KF kf_in QV looseV PW)
set_option maxHeartbeats 1000000 in
theorem EX1.tables {W : Wx} {fn : Fn} {σ : St} {x y z : Str} {px py qx qy pc pb pb2 pes pos pz spos : Pos} {kc : Nat} {si : Str} {it : Expr} {es : List Expr} {scope : Scope} {ls2 : List (List Nat)} {Q : AF → St → Prop} (hsi : si = sx [105])
    (hfree : (scope.names.all fun y => y.2 != .free && y.2 != .cell) = true) (hkind : scope.kind = .function) (hnames : (scope.names.all fun y => y.2 != .local || scope.names.lookup y.1 == some .local) = true) (hx : scope.names.lookup x = some .local) (hy : scope.names.lookup y = some .local) (hxy : x ≠ y) (hxd : (x == ("__debug__" : Str)) = false) (hyd : (y == ("__debug__" : Str)) = false)
    (hes : cstrs es = some ls2) (hz2 : ls2.length ≤ 8) (g2 : ∀ s ∈ ls2, gd 1 s)
    (hs : ∀ env y, foldedSetIterable it env y = pure y) (hz : fn.sc.names.lookup z = some .local)
    (hsw : ∀ L, swapsWith (tabE x y px py qx qy pc pb pb2 pes pos kc si it es scope) (some (.Name z pz)) spos.line (envOf fn.q fn.sc L fn.a fn.cd) = pure true)
    (h : EV W fn it σ fun a σ' => ∃ ls1, a = .strs ls1 ∧ ls1.length ≤ 100 ∧ (∀ s ∈ ls1, gd 4 s) ∧ σ'.ml = none ∧ ∀ ls, ls.length ≤ 8 * ls1.length → (∀ s ∈ ls, gd 10 s) → Q .next { σ' with loc := (z, .strs ls) :: σ'.loc }) :
    EX1 W fn (.Assign [.Name z pz] (tabE x y px py qx qy pc pb pb2 pes pos kc si it es scope) spos) σ Q := by
  refine ⟨fun g A S P E hg I k ke => ?_⟩
  have hf : ∀ y ∈ scope.names, y.2 ≠ .free ∧ y.2 ≠ .cell := fun y hy => by
    have := List.all_eq_true.mp hfree y hy
    rw [Bool.and_eq_true, bne_iff_ne, bne_iff_ne] at this
    exact this
  have hzk : g.fn.sc.names.lookup z = some .local := by rw [hg]; exact hz
  rw [exec_Assign_Name_used _ _ _ _ (by subst hg; exact hsw g.L)]
  refine wpAny_bind (wpAny_standAt (wpAny_bind ?_))
  show wpAny _ A (do let _ ← comprehension (tabE x y px py qx qy pc pb pb2 pes pos kc si it es scope) scope g.env _ (newList []) false (eval it g.env) (some (PySem.assign (.Name z pz) g.env))) _ _ S
  refine wpAny_bind (wpAny_mono (wpAny_comprehension_free (cl := []) (use := some (PySem.assign (.Name z pz) g.env)) (Q := fun _ s' => P .next s') (E := E) rfl (hs _) (closureFor_none fun y hy => (hf y hy).1) hkind (fun y hy e => ?_) ?_) (fun _ s' hq => wpAny_pure (wpAny_pure hq)) fun _ _ e => e)
  · have := List.all_eq_true.mp hnames y hy
    rw [Bool.or_eq_true, bne_iff_ne, beq_iff_eq] at this
    exact this.resolve_left fun q => q e
  refine h.run g A S _ E hg I fun u S1 a σ1 h1 I1 r1 s1 => ?_
  obtain ⟨ls1, rfl, hl1, g1, hml, hq⟩ := h1
  obtain ⟨a1, vs1, rfl, hl, hv⟩ := r1
  refine wpAny_pyIter_list hl ?_
  generalize hH2 : S1.heap.push { cls := .type "list_iterator", data := .fields #[.ref a1, .int 0 0] } = H2
  have up2 : ∀ b o, S1.heap.get? b = some o → H2.get? b = some o := fun b o e => by rw [← hH2]; exact Heap.get?_push_of_some _ e
  have sz2 : H2.objs.size = S1.heap.objs.size + 1 := by rw [← hH2, Heap.size_push]
  have getI : H2.get? S1.heap.objs.size = some { cls := .type "list_iterator", data := .fields #[.ref a1, .int 0 0] } := by rw [← hH2]; exact Heap.get?_push_size _ rfl
  refine wpAny_newObj_type ?_
  dsimp only
  generalize hH3 : H2.push { cls := .type "list", dict := none, data := .seq ([] : List Value).toArray } = H3
  have up3 : ∀ b o, H2.get? b = some o → H3.get? b = some o := fun b o e => by rw [← hH3]; exact Heap.get?_push_of_some _ e
  have sz3 : H3.objs.size = S1.heap.objs.size + 2 := by rw [← hH3, Heap.size_push, sz2]
  have getD : H3.get? H2.objs.size = some { cls := .type "list", dict := none, data := .seq ([] : List Value).toArray } := by rw [← hH3]; exact Heap.get?_push_size _ rfl
  refine wpAny_newFunctionEnv (fun y hy => (hf y hy).2) (by intro y hy; simp at hy) (fun h₁ hns₁ hsb₁ => ?_) hkind
  dsimp only at hns₁ hsb₁ ⊢
  have lta : a1 < S1.heap.objs.size := by obtain ⟨o, e, _⟩ := hl; exact Heap.lt_size e
  have up4 : ∀ b o, H3.get? b = some o → h₁.get? b = some o := fun b o e => (hsb₁.2 b (Nat.ne_of_lt (Heap.lt_size e))).trans (Heap.get?_push_of_some _ e)
  have upA : ∀ b o, S1.heap.get? b = some o → h₁.get? b = some o := fun b o e => up4 _ _ (up3 _ _ (up2 _ _ e))
  have hstI : h₁.IsListIter S1.heap.objs.size a1 0 ∧ h₁.IsList a1 (List.toArray vs1) := ⟨⟨_, up4 _ _ (up3 _ _ getI), rfl, rfl⟩, by obtain ⟨o, e, r⟩ := hl; exact ⟨o, upA _ _ e, r⟩⟩
  have loop : ∀ s₃ : Shared, s₃ = { S1 with heap := h₁, toks := S1.toks + ([] : List (Str × Value)).length } →
      codeAny W.M A (.compLoop (tabE x y px py qx qy pc pb pb2 pes pos kc si it es scope) 0 (.ref S1.heap.objs.size) (.ref H2.objs.size) (compEnvC scope [] H3.objs.size g.env)) (compPost W.M A E (some (PySem.assign (.Name z pz) g.env)) (fun _ s' => P .next s') (.ref H2.objs.size) H3.objs.size) s₃ := by
    rintro s₃ rfl
    refine tab_outer (I1 := S1.heap.objs.size) (a1 := a1) (C := H3.objs.size) (D := H2.objs.size) (vs1 := vs1) (ls1 := ls1) (ls2 := ls2) I1.hd rfl hsi (lookup_relabel_local hx) (lookup_relabel_local hy) hxy hxd hyd hkind hes hz2 g2 hstI hv g1 hl1 hns₁ ⟨_, up4 _ _ getD, rfl, _, rfl⟩
      (Nat.ne_of_lt lta) (Nat.ne_of_gt (by rw [sz3]; omega)) (Nat.ne_of_gt (by rw [sz3]; exact Nat.lt_succ_of_lt (Nat.lt_succ_of_lt lta))) (Nat.ne_of_gt (by rw [sz2]; omega)) (Nat.ne_of_gt (by rw [sz2]; exact Nat.lt_succ_of_lt lta)) (Nat.ne_of_gt (by rw [sz2, sz3]; omega)) fun h' tk m' vs' ls' hn' hD' hv' g' hz' kk => ?_
    have keep0 : ∀ b o, S1.heap.get? b = some o → h'.get? b = some o := fun b o e => kk b o (by
      have hb := Heap.lt_size e
      simp only [List.mem_cons, List.not_mem_nil, or_false, not_or]
      exact ⟨Nat.ne_of_lt hb, Nat.ne_of_lt (by rw [sz3]; exact Nat.lt_succ_of_lt (Nat.lt_succ_of_lt hb)), Nat.ne_of_lt (by rw [sz2]; exact Nat.lt_succ_of_lt hb)⟩) (upA b o e)
    show wpAny W.M A (PySem.assign (.Name z pz) g.env (.ref H2.objs.size)) _ _ _
    obtain ⟨m1, hm1, hlo1, hmm1⟩ := I1.lo
    have hmh : h'.Ns g.L m1 := hm1.at' fun o e => keep0 _ o e
    refine wpAny_assign_Name (wpAny_storeName_local (env := g.env) hzk hmh (fun h2 hn2 hs2 => ?_) (by show (g.fn.sc.kind == .class || (g.fn.sc.kind == .module && _)) = false; rw [I1.sk]; rfl))
    have hLlt : g.L < S1.heap.objs.size := by obtain ⟨oL, es, ep, e, _⟩ := hm1; exact Heap.lt_size e
    have hCL : H3.objs.size ≠ g.L := Nat.ne_of_gt (by rw [sz3]; exact Nat.lt_succ_of_lt (Nat.lt_succ_of_lt hLlt))
    have hDL : H2.objs.size ≠ g.L := Nat.ne_of_gt (by rw [sz2]; exact Nat.lt_succ_of_lt hLlt)
    have hDC : H2.objs.size ≠ H3.objs.size := Nat.ne_of_lt (by rw [sz2, sz3]; omega)
    refine ⟨m', hn'.at' fun o e => (hs2.2 _ hCL).trans e, fun h3 hs3 => ?_⟩
    dsimp only at hs3
    have keep : ∀ b o, b ≠ g.L → S1.heap.get? b = some o → h3.get? b = some o := fun b o n e => (hs3.2 _ (Nat.ne_of_lt (by have := Heap.lt_size e; rw [sz3]; exact Nat.lt_succ_of_lt (Nat.lt_succ_of_lt this)))).trans ((hs2.2 _ n).trans (keep0 b o e))
    have keepF : ∀ b o', ¬ Free g σ1 b → S1.heap.get? b = some o' → h3.get? b = some o' := fun b o' n e => keep b o' (fun q => n (.inl q)) e
    have st := Free.stepFrom I1 keepF
    have hD3 : h3.IsList H2.objs.size (List.toArray vs') := by
      obtain ⟨o, e, r⟩ := hD'
      exact ⟨o, (hs3.2 _ hDC).trans ((hs2.2 _ hDL).trans e), r⟩
    have hns3 : h3.Ns g.L (fun y => if y = z then some (.ref H2.objs.size) else m1 y) := hn2.at' fun o e => (hs3.2 _ (Ne.symm hCL)).trans e
    have I3 : In W g A { σ1 with loc := (z, .strs ls') :: σ1.loc } { S1 with heap := h3, toks := tk + 1 } := by
      refine I1.upd keepF ⟨_, hns3, fun w c e => ?_, ?_⟩ ?_ rfl
      · rw [List.lookup_cons] at e
        by_cases q : w = z
        · subst q
          rw [beq_self_eq_true] at e
          cases e
          exact ⟨.ref H2.objs.size, if_pos rfl, _, vs', rfl, hD3, hv'⟩
        · rw [show (w == z) = false from beq_eq_false_iff_ne.mpr q] at e
          obtain ⟨v, e1, e2⟩ := hlo1 w c e
          exact ⟨v, (if_neg q).trans e1, e2.step st⟩
      · unfold MlR
        dsimp only
        rw [hml]
        trivial
      · have hO := I1.ob
        unfold ObR at hO ⊢
        dsimp only
        cases hq : σ1.ob with
        | none => trivial
        | some p =>
          obtain ⟨y, dx⟩ := p
          rw [hq] at hO
          obtain ⟨⟨sl, e1⟩, ⟨es, n, sl2, d1, d2⟩, r1, r2, r3⟩ := hO
          obtain ⟨sl', e1'⟩ := st _ _ e1 (fun _ _ z => by cases z) (fun _ z => by cases z)
          exact ⟨⟨sl', e1'⟩, ⟨es, n, sl2, keep dx _ r3 d1, d2.step st⟩, r1, r2, r3⟩
    exact k _ _ .next _ (hq ls' hz' g') I3 rfl
  exact codeAny_compStart_list (loop _ rfl) (wpAny_pyIter_listiter hstI.1 (loop _ rfl))
end
noncomputable section
open PySem PySem.W PySem.Calls PyProof.Rows Builtin
open H (Sets fEnd KF kf_in QV looseV PW)
noncomputable def cints : List Expr → Option (List Int)
  | [] => some []
  | .Constant (.int s) _ _ :: r => (cints r).map (s :: ·)
  | _ => none
set_option tactic.hygienic true in
theorem spl_ints {M : Model} {A : Around} {E : Value → Shared → Prop} {env : Env} {p : Pos} : ∀ {es : List Expr} {ls : List Int} (_ : cints es = some ls) {S : Shared} {P : List Value → Shared → Prop}
    (_ : ∀ vs tk, IntsAre vs ls → P vs { S with toks := tk }), wpAny M A (spliced (backTo p (starEach es env))) P E S
  | [], ls, h, S, P, k => by
    cases h
    exact args_nil (k [] S.toks .nil)
  | e :: r, ls, h, S, P, k => by
    unfold cints at h
    split at h
    · rename_i h0; cases h0
    · rename_i s kd q r' h0
      cases h0
      rw [Option.map_eq_some_iff] at h
      obtain ⟨l', h1, rfl⟩ := h
      refine args_cons (wpAny_Constant_int (k := kd) (pos := q) (spl_ints h1 fun vs tk hs => ?_)) rfl
      exact k _ _ (.cons s _ hs)
    · cases h
section
variable {W : Wx} {fn : Fn} {σ : St}
theorem EV.lints {es : List Expr} {ls : List Int} {p : Pos} {Q : AV → St → Prop} (h : cints es = some ls) (hz : ls.length ≤ 1000) (hq : Q (.ints ls) σ) : EV W fn (.List es p) σ Q := by
  refine ⟨fun g A S P E hg I k => wpAny_List (spl_ints h fun vs tk hs => ⟨?_, ?_⟩)⟩
  · have := hs.length
    rw [sizeLine_eq]; lia
  have up : ∀ b o, S.heap.get? b = some o → (S.heap.push { cls := .type "list", data := .seq (List.toArray vs) }).get? b = some o := fun b o e => Heap.get?_push_of_some _ e
  exact k _ _ _ _ hq (I.grows up rfl rfl) ⟨_, vs, rfl, strs_push, hs⟩ (.of_keeps up)
theorem list_add {A : Around} {S : Shared} {P E : Value → Shared → Prop} {a b : Addr} {vs ws : List Value} (hl : S.heap.IsList a (List.toArray vs)) (hb : S.heap.IsList b (List.toArray ws)) (hz : vs.length + ws.length ≤ 5000)
    (k : P (.ref S.heap.objs.size) { S with heap := S.heap.push { cls := .type "list", data := .seq (List.toArray (vs ++ ws)) } }) : wpAny W.M A (binaryOp .Add (.ref a) (.ref b)) P E S := by
  obtain ⟨⟨cls, dd, data, sl⟩, ho, hc, n, hd⟩ := id hl
  obtain ⟨⟨cls2, dd2, data2, sl2⟩, ho2, hc2, n2, hd2⟩ := id hb
  simp only at hc hd hc2 hd2
  subst hc hd hc2 hd2
  have e : List.toArray vs ++ List.toArray ws = List.toArray (vs ++ ws) := by simp
  refine concat_meets ⟨_, ho, rfl⟩ ⟨_, ho2, rfl⟩ noFill_list_add seq_list_add PySem.F.slot_list_add PySem.F.entry_list_add (PySem.F.args_list_add_2 _ _) (list_addW a b (List.toArray vs) (List.toArray ws) n n2 dd dd2 sl sl2 (by rw [List.size_toArray, List.size_toArray, sizeLine_eq]; lia)) ⟨ho, ho2, ?_⟩
  rw [e]
  exact k
theorem EV.addS {l r : Expr} {p : Pos} {Q : AV → St → Prop} (h : EV W fn l σ fun a σ1 => EV W fn r σ1 fun b σ2 => ∃ x y, a = .strs x ∧ b = .strs y ∧ x.length + y.length ≤ 5000 ∧ Q (.strs (x ++ y)) σ2) : EV W fn (.BinOp l .Add r p) σ Q := by
  refine ⟨fun g A S P E hg I k => wpAny_BinOp (h.run g A S _ E hg I fun u S1 a σ1 h1 I1 r1 s1 => h1.run g A S1 _ E hg I1 fun v S2 b σ2 h2 I2 r2 s2 => ?_)⟩
  obtain ⟨x, y, rfl, rfl, hz, hq⟩ := h2
  obtain ⟨a, vs, rfl, hl, hv⟩ := r1.step s2
  obtain ⟨b, ws, rfl, hb, hw⟩ := r2
  have e1 := hv.len_eq
  have e2 := hw.len_eq
  rw [List.length_map] at e1 e2
  refine list_add hl hb (by lia) ?_
  have up : ∀ b o, S2.heap.get? b = some o → (S2.heap.push { cls := .type "list", data := .seq (List.toArray (vs ++ ws)) }).get? b = some o := fun b o e => Heap.get?_push_of_some _ e
  exact k _ _ _ _ hq (I2.grows up rfl rfl) ⟨_, _, rfl, strs_push, by rw [List.map_append]; exact StrsAre.append' hv hw⟩ ((s1.trans s2).trans (.of_keeps up))
theorem EV.addI {l r : Expr} {p : Pos} {Q : AV → St → Prop} (h : EV W fn l σ fun a σ1 => EV W fn r σ1 fun b σ2 => ∃ x y, a = .ints x ∧ b = .ints y ∧ x.length + y.length ≤ 5000 ∧ Q (.ints (x ++ y)) σ2) : EV W fn (.BinOp l .Add r p) σ Q := by
  refine ⟨fun g A S P E hg I k => wpAny_BinOp (h.run g A S _ E hg I fun u S1 a σ1 h1 I1 r1 s1 => h1.run g A S1 _ E hg I1 fun v S2 b σ2 h2 I2 r2 s2 => ?_)⟩
  obtain ⟨x, y, rfl, rfl, hz, hq⟩ := h2
  obtain ⟨a, vs, rfl, hl, hv⟩ := r1.step s2
  obtain ⟨b, ws, rfl, hb, hw⟩ := r2
  have e1 := hv.length
  have e2 := hw.length
  refine list_add hl hb (by lia) ?_
  have up : ∀ b o, S2.heap.get? b = some o → (S2.heap.push { cls := .type "list", data := .seq (List.toArray (vs ++ ws)) }).get? b = some o := fun b o e => Heap.get?_push_of_some _ e
  exact k _ _ _ _ hq (I2.grows up rfl rfl) ⟨_, _, rfl, strs_push, PyProof.Rows.IntsAre.append hv hw⟩ ((s1.trans s2).trans (.of_keeps up))
theorem EV.itemS {o ix : Expr} {p : Pos} {Q : AV → St → Prop} (h : EV W fn o σ fun a σ1 => ∃ ls, a = .strs ls ∧ ls.length ≤ 5000 ∧ EV W fn ix σ1 fun b σ2 => ∃ i : Int, b = .int i ∧ 0 ≤ i ∧ i < ls.length ∧ Q (.str (ls.getD i.toNat [])) σ2)
    (hs : ∀ t k u, subscripted ix false (.ref t) (.int k u) = operate [.ref t, .int k u] (getItem (.ref t) (.int k u)) := by intro _ _ _; with_unfolding_all rfl) : EV W fn (.Subscript o ix p) σ Q := by
  refine ⟨fun g A S P E hg I k => Subscript_ (h.run g A S _ E hg I fun u S1 a σ1 h1 I1 r1 s1 => ?_)⟩
  obtain ⟨ls, rfl, hz, h2⟩ := h1
  obtain ⟨b, vs, rfl, hl, hv⟩ := r1
  refine h2.run g A S1 _ E hg I1 fun v S2 c σ2 h3 I2 r2 s2 => ?_
  obtain ⟨i, rfl, h0, h1, hq⟩ := h3
  obtain ⟨u, rfl⟩ := r2
  have hl2 := IsList.step hl s2
  have hlen := hv.len_eq
  rw [List.length_map] at hlen
  have hget : vs[i.toNat]? = some (vs[i.toNat]'(by lia)) := List.getElem?_eq_getElem (by omega)
  obtain ⟨t, ht⟩ := strs_at hv hget
  refine tail_any hl2.typeIs slot_list_getitem.lookup (wpAny_getItem_list hl2 h0 (by lia) (x := .str (sx (ls.getD i.toNat [])) t) ?_ (k _ _ _ _ hq I2 ⟨t, rfl⟩ (s1.trans s2))) (hs _ _ _)
  rw [List.getElem?_toArray, hget, ht]
theorem ints_at {vs : List Value} {ns : List Int} (h : IntsAre vs ns) : ∀ {i : Nat} {v : Value}, vs[i]? = some v → ∃ t, v = .int (ns.getD i 0) t := by
  induction h with
  | nil => intro i v e; simp at e
  | cons n t h' ih =>
    intro i v e
    cases i with
    | zero => simp at e; exact ⟨_, e.symm⟩
    | succ j => simp at e; exact ih e
theorem EV.itemI {o ix : Expr} {p : Pos} {Q : AV → St → Prop} (h : EV W fn o σ fun a σ1 => ∃ ls, a = .ints ls ∧ ls.length ≤ 5000 ∧ EV W fn ix σ1 fun b σ2 => ∃ i : Int, b = .int i ∧ 0 ≤ i ∧ i < ls.length ∧ Q (.int (ls.getD i.toNat 0)) σ2)
    (hs : ∀ t k u, subscripted ix false (.ref t) (.int k u) = operate [.ref t, .int k u] (getItem (.ref t) (.int k u)) := by intro _ _ _; with_unfolding_all rfl) : EV W fn (.Subscript o ix p) σ Q := by
  refine ⟨fun g A S P E hg I k => Subscript_ (h.run g A S _ E hg I fun u S1 a σ1 h1 I1 r1 s1 => ?_)⟩
  obtain ⟨ls, rfl, hz, h2⟩ := h1
  obtain ⟨b, vs, rfl, hl, hv⟩ := r1
  refine h2.run g A S1 _ E hg I1 fun v S2 c σ2 h3 I2 r2 s2 => ?_
  obtain ⟨i, rfl, h0, h1, hq⟩ := h3
  obtain ⟨u, rfl⟩ := r2
  have hl2 := IsList.step hl s2
  have hlen := hv.length
  have hget : vs[i.toNat]? = some (vs[i.toNat]'(by lia)) := List.getElem?_eq_getElem (by omega)
  obtain ⟨t, ht⟩ := ints_at hv hget
  refine tail_any hl2.typeIs slot_list_getitem.lookup (wpAny_getItem_list hl2 h0 (by lia) (x := .int (ls.getD i.toNat 0) t) ?_ (k _ _ _ _ hq I2 ⟨t, rfl⟩ (s1.trans s2))) (hs _ _ _)
  rw [List.getElem?_toArray, hget, ht]
theorem islice {A : Around} {S : Shared} {P E : Value → Shared → Prop} {g : Cx} {a : Addr} {vs : List Value} {ns : List Int} {vl vu : Value} {lo hi : Option Int} (hl : S.heap.IsList a (List.toArray vs)) (hv : IntsAre vs ns) (hz : ns.length ≤ 5000) (pl : IsPart vl lo) (pu : IsPart vu hi) {o ix : Expr}
    (hs : ∀ t i, subscripted ix false (.ref t) (.ref i) = operate [.ref i, .ref t] (getItem (.ref t) (.ref i)))
    (k : ∀ h' b ws ms, (∀ b o, S.heap.get? b = some o → h'.get? b = some o) → h'.IsList b (List.toArray ws) → IntsAre ws ms → ms.length ≤ ns.length → P (.ref b) { S with heap := h' }) :
    wpAny W.M A (subscriptTail o ix (.ref a) (.ref S.heap.objs.size)) P E { S with heap := S.heap.push { cls := .type "slice", data := .fields #[vl, vu, .none] } } := by
  have up : ∀ b o, S.heap.get? b = some o → (S.heap.push { cls := .type "slice", data := .fields #[vl, vu, .none] }).get? b = some o := fun b o e => Heap.get?_push_of_some _ e
  have hl2 : (S.heap.push { cls := .type "slice", data := .fields #[vl, vu, .none] }).IsList a (List.toArray vs) := by obtain ⟨o, e, r⟩ := hl; exact ⟨o, up _ _ e, r⟩
  have hlen := hv.length
  have hp := PyProof.Rows.IntsAre.pick hv lo hi none
  have hsz := slicePick_size_le (List.toArray vs) lo hi none
  refine tail_any hl2.typeIs slot_list_getitem.lookup (wpAny_getItem_list_slice hl2 (Heap.IsSliceOf.new ..) pl pu .none (by simp) ?_ (by rw [List.size_toArray, sizeLine_eq]; lia)) (hs _ _)
  refine k _ _ (slicePick (List.toArray vs) lo hi none).toList _ (fun b o e => Heap.get?_push_of_some _ (up b o e)) ⟨_, Heap.get?_push_size _ rfl, rfl, 0, by simp⟩ hp ?_
  have e2 : (List.toArray vs).size = vs.length := List.size_toArray
  rw [e2, hlen] at hsz
  have e := hp.length
  rw [Array.length_toList] at e
  rw [← e]
  exact hsz
theorem EV.isl_ns {o ej : Expr} {p q : Pos} {Q : AV → St → Prop} (h : EV W fn o σ fun a σ1 => ∃ ns, a = .ints ns ∧ ns.length ≤ 5000 ∧ EV W fn ej σ1 fun b σ2 => ∃ i : Int, b = .int i ∧ ∀ ms : List Int, ms.length ≤ ns.length → Q (.ints ms) σ2)
    (hs : ∀ t i, subscripted (.Slice none (some ej) none q) false (.ref t) (.ref i) = operate [.ref i, .ref t] (getItem (.ref t) (.ref i)) := by intro _ _; with_unfolding_all rfl) : EV W fn (.Subscript o (.Slice none (some ej) none q) p) σ Q := by
  refine ⟨fun g A S P E hg I k => Subscript_ (h.run g A S _ E hg I fun u S1 a σ1 h1 I1 r1 s1 => ?_)⟩
  obtain ⟨ns, rfl, hz, h2⟩ := h1
  obtain ⟨b, vs, rfl, hl, hv⟩ := r1
  refine wpAny_Slice (wpAny_pure (h2.run g A S1 _ E hg I1 fun v S2 c σ2 h3 I2 r2 s2 => ?_))
  obtain ⟨i, rfl, hq⟩ := h3
  obtain ⟨u, rfl⟩ := r2
  refine wpAny_pure (islice (g := g) (IsList.step hl s2) hv hz .none (.int i u) hs fun h' b ws ms up hl' hi hm => ?_)
  exact k _ _ _ _ (hq ms hm) (I2.grows (S' := { S2 with heap := h' }) up rfl rfl) ⟨b, ws, rfl, hl', hi⟩ ((s1.trans s2).trans (.of_keeps up))
theorem EV.isl_ss {o ei ej : Expr} {p q : Pos} {Q : AV → St → Prop} (h : EV W fn o σ fun a σ1 => ∃ ns, a = .ints ns ∧ ns.length ≤ 5000 ∧ EV W fn ei σ1 fun b σ2 => ∃ i : Int, b = .int i ∧ EV W fn ej σ2 fun c σ3 => ∃ j : Int, c = .int j ∧ ∀ ms : List Int, ms.length ≤ ns.length → Q (.ints ms) σ3)
    (hs : ∀ t i, subscripted (.Slice (some ei) (some ej) none q) false (.ref t) (.ref i) = operate [.ref i, .ref t] (getItem (.ref t) (.ref i)) := by intro _ _; with_unfolding_all rfl) : EV W fn (.Subscript o (.Slice (some ei) (some ej) none q) p) σ Q := by
  refine ⟨fun g A S P E hg I k => Subscript_ (h.run g A S _ E hg I fun u S1 a σ1 h1 I1 r1 s1 => ?_)⟩
  obtain ⟨ns, rfl, hz, h2⟩ := h1
  obtain ⟨b, vs, rfl, hl, hv⟩ := r1
  refine wpAny_Slice (h2.run g A S1 _ E hg I1 fun v S2 c σ2 h3 I2 r2 s2 => ?_)
  obtain ⟨i, rfl, h4⟩ := h3
  obtain ⟨u, rfl⟩ := r2
  refine h4.run g A S2 _ E hg I2 fun v S3 c σ3 h5 I3 r3 s3 => ?_
  obtain ⟨j, rfl, hq⟩ := h5
  obtain ⟨u', rfl⟩ := r3
  refine wpAny_pure (islice (g := g) (IsList.step hl (s2.trans s3)) hv hz (.int i u) (.int j u') hs fun h' b ws ms up hl' hi hm => ?_)
  exact k _ _ _ _ (hq ms hm) (I3.grows (S' := { S3 with heap := h' }) up rfl rfl) ⟨b, ws, rfl, hl', hi⟩ (((s1.trans s2).trans s3).trans (.of_keeps up))
end
end
noncomputable section
open PySem PySem.W PySem.Calls PyProof.Rows Builtin
open H (Sets fEnd KF kf_in QV looseV PW)
noncomputable def cstr (e : Expr) : Option (List Nat) := match e with
  | .Constant c _ _ => match c with
    | .str a => some a.cps.toList
    | _ => none
  | _ => none
theorem cstr_inv {e : Expr} {l : List Nat} (h : cstr e = some l) : ∃ a k p, e = .Constant (.str a) k p ∧ l = a.cps.toList := by
  unfold cstr at h
  split at h
  · split at h <;> cases h
    exact ⟨_, _, _, rfl, rfl⟩
  · cases h
noncomputable def cpair (e : Expr) : Option (List Nat × List Nat) := match e with
  | .Tuple es _ _ => match es with
    | [x, y] => (cstr x).bind fun a => (cstr y).map fun b => (a, b)
    | _ => none
  | _ => none
theorem cpair_inv {e : Expr} {q : List Nat × List Nat} (h : cpair e = some q) : ∃ a k1 p1 b k2 p2 kt pt, e = .Tuple [.Constant (.str a) k1 p1, .Constant (.str b) k2 p2] kt pt ∧ q = (a.cps.toList, b.cps.toList) := by
  unfold cpair at h
  split at h
  · split at h
    · obtain ⟨a, h1, h2⟩ := Option.bind_eq_some_iff.mp h
      obtain ⟨b, h3, rfl⟩ := Option.map_eq_some_iff.mp h2
      obtain ⟨a, _, _, rfl, rfl⟩ := cstr_inv h1
      obtain ⟨b, _, _, rfl, rfl⟩ := cstr_inv h3
      exact ⟨_, _, _, _, _, _, _, _, rfl, rfl⟩
    · cases h
  · cases h
noncomputable def cpairs : List Expr → Option (List (List Nat × List Nat))
  | [] => some []
  | e :: r => (cpair e).bind fun p => (cpairs r).map (p :: ·)
theorem spl_pairs {M : Model} {A : Around} {E : Value → Shared → Prop} {env : Env} {p : Pos} : ∀ {es : List Expr} {ls : List (List Nat × List Nat)} (_ : cpairs es = some ls) {S : Shared} {P : List Value → Shared → Prop}
    (_ : ∀ vs S', PairsAre S'.heap vs ls → Keeps S S' → P vs S'), wpAny M A (spliced (backTo p (starEach es env))) P E S
  | [], ls, h, S, P, k => by
    cases h
    exact args_nil (k [] S trivial (keeps_refl S))
  | e :: r, ls, h, S, P, k => by
    obtain ⟨q, h0, h2⟩ := Option.bind_eq_some_iff.mp h
    obtain ⟨l', h1, rfl⟩ := Option.map_eq_some_iff.mp h2
    obtain ⟨a, k1, p1, b, k2, p2, kt, pt, rfl, rfl⟩ := cpair_inv h0
    refine args_cons (wpAny_Tuple (args_cons (wpAny_Constant_str (k := k1) (pos := p1) (args_cons (wpAny_Constant_str (k := k2) (pos := p2) (args_nil ?_)) rfl)) rfl)) rfl
    refine ⟨by show 2 ≤ sizeLine; rw [sizeLine_eq]; lia, spl_pairs h1 fun vs S' hs hk => ?_⟩
    refine k _ _ ⟨⟨_, S.toks, S.toks + 1, rfl, _, keeps_get hk _ _ (Heap.get?_push_size _ rfl), rfl, _, rfl⟩, hs⟩ (keeps_trans ⟨_, _, rfl, fun b o e => Heap.get?_push_of_some _ e⟩ hk)
theorem keeps_in {W : Wx} {g : Cx} {A : Around} {σ : St} {S S' : Shared} (I : In W g A σ S) (k : Keeps S S') : In W g A σ S' ∧ Step S.heap S'.heap := by
  obtain ⟨h', tk, rfl, kk⟩ := k
  exact ⟨I.grows kk rfl rfl, .of_keeps kk⟩
section
variable {W : Wx} {fn : Fn} {σ : St}
theorem EV.lpairs {es : List Expr} {ls : List (List Nat × List Nat)} {p : Pos} {Q : AV → St → Prop} (h : cpairs es = some ls) (hz : ls.length ≤ 1000) (hq : Q (.pairs ls) σ) : EV W fn (.List es p) σ Q := by
  refine ⟨fun g A S P E hg I k => wpAny_List (spl_pairs h fun vs S' hs hk => ⟨?_, ?_⟩)⟩
  · have := pairs_len hs
    rw [sizeLine_eq]; lia
  have up : ∀ b o, S'.heap.get? b = some o → (S'.heap.push { cls := .type "list", data := .seq (List.toArray vs) }).get? b = some o := fun b o e => Heap.get?_push_of_some _ e
  obtain ⟨I2, s2⟩ := keeps_in I hk
  exact k _ _ _ _ hq (I2.grows up rfl rfl) ⟨_, vs, rfl, strs_push, hs.step (.of_keeps up)⟩ (s2.trans (.of_keeps up))
theorem pairs_at {h : Heap} : ∀ {vs : List Value} {ps : List (List Nat × List Nat)}, PairsAre h vs ps → ∀ {i : Nat} {v : Value}, vs[i]? = some v → IsPair h v (ps.getD i ([], [])).1 (ps.getD i ([], [])).2
  | [], [], _, i, v, e => by simp at e
  | w :: vs, p :: ps, ⟨x, y⟩, i, v, e => by
    cases i with
    | zero => simp at e; subst e; exact x
    | succ j => simp at e; exact pairs_at y e
  | [], _ :: _, x, _, _, _ => x.elim
  | _ :: _, [], x, _, _, _ => x.elim
theorem EV.itemP {o ix : Expr} {p : Pos} {Q : AV → St → Prop} (h : EV W fn o σ fun a σ1 => ∃ ls, a = .pairs ls ∧ ls.length ≤ 5000 ∧ EV W fn ix σ1 fun b σ2 => ∃ i : Int, b = .int i ∧ 0 ≤ i ∧ i < ls.length ∧ Q (.pair (ls.getD i.toNat ([], [])).1 (ls.getD i.toNat ([], [])).2) σ2)
    (hs : ∀ t k u, subscripted ix false (.ref t) (.int k u) = operate [.ref t, .int k u] (getItem (.ref t) (.int k u)) := by intro _ _ _; with_unfolding_all rfl) : EV W fn (.Subscript o ix p) σ Q := by
  refine ⟨fun g A S P E hg I k => Subscript_ (h.run g A S _ E hg I fun u S1 a σ1 h1 I1 r1 s1 => ?_)⟩
  obtain ⟨ls, rfl, hz, h2⟩ := h1
  obtain ⟨b, vs, rfl, hl, hv⟩ := r1
  refine h2.run g A S1 _ E hg I1 fun v S2 c σ2 h3 I2 r2 s2 => ?_
  obtain ⟨i, rfl, h0, h1, hq⟩ := h3
  obtain ⟨u, rfl⟩ := r2
  have hl2 := IsList.step hl s2
  have hlen := pairs_len hv
  have hget : vs[i.toNat]? = some (vs[i.toNat]'(by lia)) := List.getElem?_eq_getElem (by omega)
  have hp := pairs_at (hv.step s2) hget
  refine tail_any hl2.typeIs slot_list_getitem.lookup (wpAny_getItem_list hl2 h0 (by lia) (x := vs[i.toNat]'(by omega)) ?_ (k _ _ _ _ hq I2 hp (s1.trans s2))) (hs _ _ _)
  rw [List.getElem?_toArray, hget]
theorem EV.pr {o : Expr} {kd : Nat} {cp p : Pos} {j : Nat} {Q : AV → St → Prop} (hj : j < 2) (h : EV W fn o σ fun a σ1 => ∃ x y, a = .pair x y ∧ Q (.str (if j = 0 then x else y)) σ1) : EV W fn (.Subscript o (.Constant (.int j) kd cp) p) σ Q := by
  refine ⟨fun g A S P E hg I k => Subscript_ (h.run g A S _ E hg I fun u S1 a σ1 h1 I1 r1 s1 => wpAny_Constant_int ?_)⟩
  obtain ⟨x, y, rfl, hq⟩ := h1
  obtain ⟨b, t, u, rfl, ht⟩ := r1
  have fin : ∀ z, Rv S1.heap (.str (if j = 0 then x else y)) z → P z { S1 with toks := S1.toks + 1 } := fun z r => k _ _ _ _ hq (I1.toks _) r s1
  match j, hj with
  | 0, _ => exact tail_any ht.typeIs F.slot_tuple_getitem.lookup (getItem_tuple ht (by decide) (by decide) (j := 0) (by rfl) (by rfl) (fin _ ⟨t, rfl⟩)) (by with_unfolding_all rfl)
  | 1, _ => exact tail_any ht.typeIs F.slot_tuple_getitem.lookup (getItem_tuple ht (by decide) (by decide) (j := 1) (by rfl) (by rfl) (fin _ ⟨u, rfl⟩)) (by with_unfolding_all rfl)
end
section
variable {W : Wx} {ob : Option (Addr × Addr)} {fl : List (Str × AV)} {Q : AV → List (Str × AV) → Prop}
theorem c_shapes (h : Q (.pairs SH) fl) : CallOK W 733 0 [] ob fl Q := by
  refine call_law_shapes rfl ?_
  exact EX.cons (EX1.ret (EV.lpairs (ls := SH) (by kernel_rfl) (by decide) ⟨_, .inl rfl, rfl, h⟩))
theorem c_adds (h : Q (.strs AD) fl) : CallOK W 740 0 [] ob fl Q := by
  refine call_law_adds rfl ?_
  exact EX.cons (EX1.ret (EV.lstrs (ls := AD) (by kernel_rfl) (by decide) ⟨_, .inl rfl, rfl, h⟩))
end
theorem paired_strs {k : Nat} {vs ys : List Value} (h : Paired (fun _ y => ∃ s t, y = Value.str (sx s) t ∧ gd k s) vs ys) : ∃ ls : List (List Nat), StrsAre ys (ls.map sx) ∧ (∀ s ∈ ls, gd k s) ∧ ls.length = vs.length := by
  induction h with
  | nil => exact ⟨[], .nil, (fun s q => by cases q), rfl⟩
  | cons e _ ih =>
    obtain ⟨ls, a, b, c⟩ := ih
    obtain ⟨s, t, rfl, hs⟩ := e
    refine ⟨s :: ls, .cons _ _ a, fun r hr => ?_, by simp [c]⟩
    rcases List.mem_cons.mp hr with rfl | hr
    · exact hs
    · exact b r hr
theorem EV.compT {W : Wx} {fn : Fn} {σ : St} {it : Expr} {x tn ln : Str} {px t1 t2 l1 x1 m1 c1 s1 pos : Pos} {scope : Scope} {a : Addr} {T : List (List Nat)} {Q : AV → St → Prop} 
    (hfree : (scope.names.all fun y => y.2 != .free && y.2 != .cell) = true) (hkind : scope.kind = .function) (hnames : (scope.names.all fun y => y.2 != .local || scope.names.lookup y.1 == some .local) = true) (hx : scope.names.lookup x = some .local) (hxd : (x == ("__debug__" : Str)) = false)
    (ht : ∀ g : Cx, (relabel scope g.env).names.lookup tn = some .globalImplicit) (htd : (tn == ("__debug__" : Str)) = false) (hln : ln = "len") (hl : ∀ g : Cx, (relabel scope g.env).names.lookup ln = some .globalImplicit)
    (he : nsIn W.K mainGlobals tn = some (some (.ref a))) (hT : strsK W.K a = some T) (gT : ∀ s ∈ T, gd 4 s) (hT0 : T.length ≠ 0) (hTz : T.length ≤ 1000)
    (hs : ∀ env y, foldedSetIterable it env y = pure y)
    (h : EV W fn it σ fun b σ' => ∃ ns, b = .ints ns ∧ ns.length ≤ 1000 ∧ ∀ ls, ls.length = ns.length → (∀ s ∈ ls, gd 4 s) → Q (.strs ls) σ') :
    EV W fn (.ListComp (.Subscript (.Name tn t1) (.BinOp (.Name x x1) .Mod (.Call (.Name ln l1) [.Name tn t2] [] c1) m1) s1) [⟨.Name x px, it, [], 0⟩] scope pos) σ Q := by
  refine ⟨fun g A S P E hg I k => ?_⟩
  subst hln
  have hf : ∀ y ∈ scope.names, y.2 ≠ .free ∧ y.2 ≠ .cell := fun y hy => by
    have := List.all_eq_true.mp hfree y hy
    rw [Bool.and_eq_true, bne_iff_ne, bne_iff_ne] at this
    exact this
  refine wpAny_ListComp_free (fun _ => true) (fun _ y => ∃ s t, y = Value.str (sx s) t ∧ gd 4 s) (cl := []) (closureFor_none fun y hy => (hf y hy).1) (fun y hy => (hf y hy).2) hkind (fun y hy e => ?_) hx ?_ (hs _)
  · have := List.all_eq_true.mp hnames y hy
    rw [Bool.or_eq_true, bne_iff_ne, beq_iff_eq] at this
    exact this.resolve_left fun q => q e
  refine h.run g A S _ E hg I fun u S1 b σ1 h1 I1 r1 s1 => ?_
  obtain ⟨ns, rfl, hz, hq⟩ := h1
  obtain ⟨al, vl, rfl, hlst, hint⟩ := r1
  have hlen := hint.length
  refine wpAny_pyIter_list hlst ?_
  obtain ⟨o, ho⟩ : ∃ o : Obj, o = { cls := .type "list_iterator", data := .fields #[.ref al, .int 0 0] } := ⟨_, rfl⟩
  rw [← ho]
  have up : ∀ b o', S1.heap.get? b = some o' → (S1.heap.push o).get? b = some o' := fun b o' e => Heap.get?_push_of_some _ e
  have I2 : In W g A σ1 { S1 with heap := S1.heap.push o } := I1.grows up rfl rfl
  have nB : g.B.get? S1.heap.objs.size = none := I1.newB
  have has : ∀ s₃ : Shared, (∀ b o', b ∉ [S1.heap.objs.size] → (S1.heap.push o).get? b = some o' → s₃.heap.get? b = some o') → ∀ b o', W.H.get? b = some o' → s₃.heap.get? b = some o' := fun s₃ kk b o' e => by
    have e1 := I1.bs b o' e
    exact kk b o' (fun q => by rw [List.mem_singleton.mp q, nB] at e1; cases e1) (up b o' (I1.st b o' e1))
  have lta : al < S1.heap.objs.size := by obtain ⟨o, e, _⟩ := hlst; exact Heap.lt_size e
  have Wk := Walks.list (prog := PW) (w := W.w) I1.hd S1.heap.objs.size al (Nat.ne_of_lt lta) (List.toArray vl)
  have getI : (S1.heap.push o).get? S1.heap.objs.size = some o := Heap.get?_push_size _ (by rw [ho]; rfl)
  refine ⟨_, _, _, _, _, _, rfl, Wk, by rw [List.size_toArray, sizeLine_eq]; lia, ⟨⟨o, getI, by rw [ho], by rw [ho]; rfl⟩, by obtain ⟨o', e, r⟩ := hlst; exact ⟨o', up _ _ e, r⟩⟩, fun b hb => ?_, ⟨fun C i v s₃ m₃ E' hC hp hn hm kk htk => wpAny_tests_nil ⟨rfl, keeps_refl _⟩, fun C i v s₃ m₃ E' hC hp _ hn hm kk htk => ?_⟩, fun D h' tk ys vs hD hlD hpl hlen2 hP hF kk => ?_⟩
  · show b < (S1.heap.push o).objs.size
    rw [Heap.size_push]
    rcases List.mem_cons.mp hb with rfl | hb
    · exact Nat.lt_succ_self _
    · rw [List.mem_singleton.mp hb]; exact Nat.lt_succ_of_lt lta
  · have hp' : vl[i]? = some v := by simpa using hp
    obtain ⟨t, rfl⟩ := ints_at hint hp'
    have hH := has s₃ kk
    obtain ⟨mg, mb, Tp⟩ := W.top hH
    have hK := W.kin hH
    obtain ⟨at_, vT, e0, hlT, hvT⟩ := strsK_rv hK hT
    cases e0
    have hTl := hvT.len_eq
    rw [List.length_map] at hTl
    refine Subscript_ (Calls.Name_function_global (env := compEnvC scope [] C g.env) hkind (ht g) (Calls.loadGlobal_global (env := compEnvC scope [] C g.env) Tp.g (mg_of hK Tp.g he) ?_) htd)
    refine wpAny_BinOp (wpAny_Name (wpAny_loadName_local (env := compEnvC scope [] C g.env) hkind (lookup_relabel_local hx) hn hm ?_) hxd)
    refine wpAny_Call_ofName (Calls.Name_function_global (env := compEnvC scope [] C g.env) hkind (hl g) (Calls.loadGlobal_builtin (env := compEnvC scope [] C g.env) Tp.g (mg_none_of hK Tp.g g_len) Tp.b ((Tp.builtins "len" (by decide)).trans Boot_len) ?_) (by decide))
    refine callWith_builtin1 (args_cons (Calls.Name_function_global (env := compEnvC scope [] C g.env) hkind (ht g) (Calls.loadGlobal_global (env := compEnvC scope [] C g.env) Tp.g (mg_of hK Tp.g he) (args_nil ?_)) htd) rfl)
    have eT := (List.size_toArray (as := vT)).trans hTl
    refine Calls.call_len_list hlT (by rw [eT]; lia) ?_
    rw [eT]
    have hb : ((T.length : Nat) : Int) ≠ 0 := by lia
    refine PyProof.Rows.mod_int hb ?_
    obtain ⟨q, hqq⟩ : ∃ q, q = (ns.getD i 0).fmod (T.length : Nat) := ⟨_, rfl⟩
    have q0 : 0 ≤ q := by rw [hqq, Int.fmod_eq_emod_of_nonneg _ (by lia)]; exact Int.emod_nonneg _ hb
    have q1 : q < T.length := by rw [hqq, Int.fmod_eq_emod_of_nonneg _ (by omega)]; exact Int.emod_lt_of_pos _ (by lia)
    rw [← hqq]
    have hget : vT[q.toNat]? = some (vT[q.toNat]'(by lia)) := List.getElem?_eq_getElem (by omega)
    obtain ⟨t2, ht2⟩ := strs_at hvT hget
    refine tail_any hlT.typeIs slot_list_getitem.lookup (wpAny_getItem_list hlT q0 (by lia) (x := .str (sx (T.getD q.toNat [])) t2) ?_ ⟨⟨_, t2, rfl, gT _ ?_⟩, _, _, rfl, fun b o e => e⟩) (by with_unfolding_all rfl)
    · rw [List.getElem?_toArray, hget, ht2]
    · rw [List.getD_eq_getElem?_getD, List.getElem?_eq_getElem (by lia)]
      exact List.getElem_mem _
  · have hI : ∃ o' vs', (S1.heap.push o).get? S1.heap.objs.size = some o' ∧ o'.data = .fields vs' := ⟨o, _, getI, by rw [ho]⟩
    have I3 : In W g A σ1 { S1 with heap := h', toks := tk } := I2.moves nB hI kk
    have st2 : Step S1.heap h' := fun b o' e n1 n2 => ⟨o'.slots, kk b o' (fun q => by rw [List.mem_singleton.mp q] at e; exact absurd (Heap.lt_size e) (Nat.lt_irrefl _)) (up b o' e)⟩
    obtain ⟨ls, a1, a2, a3⟩ := paired_strs hF
    have hfl : (List.filter (fun _ => true) vs).length = ns.length := by
      rw [List.filter_eq_self.mpr (fun _ _ => rfl), hlen2, List.size_toArray, hlen]
    refine k _ _ _ _ (hq ls (a3.trans hfl) a2) I3 ⟨D, ys.toList, rfl, ?_, a1⟩ (s1.trans st2)
    show h'.IsList D (List.toArray ys.toList)
    have : List.toArray ys.toList = ys := by simp
    rw [this]; exact hlD
end
noncomputable section
open PySem PySem.W PySem.Calls PyProof.Rows Builtin
open H (Sets fEnd KF kf_in QV looseV PW)
theorem gd_take {k n : Nat} {s : List Nat} (h : gd k s) : gd n (s.take n) := ⟨fun c hc => h.1 c (List.mem_of_mem_take hc), by rw [List.length_take]; lia⟩
theorem gd_app {k n : Nat} {s t : List Nat} (h : gd k s) (h2 : gd n t) : gd (k + n) (s ++ t) := ⟨fun c hc => by
  rcases List.mem_append.mp hc with hc | hc
  · exact h.1 c hc
  · exact h2.1 c hc, by rw [List.length_append]; have := h.2; have := h2.2; lia⟩
theorem gd_all {k : Nat} {l : List (List Nat)} (h : (l.all fun s => (s.all fun c => c != 39) && decide (s.length ≤ k)) = true) : ∀ s ∈ l, gd k s := fun s hs => by
  have := List.all_eq_true.mp h s hs
  rw [Bool.and_eq_true, decide_eq_true_iff, List.all_eq_true] at this
  exact ⟨fun c hc => by simpa using this.1 c hc, this.2⟩
theorem gd_le {k n : Nat} {s : List Nat} (h : gd k s) (hk : k ≤ n) : gd n s := ⟨h.1, Nat.le_trans h.2 hk⟩
theorem gd_flat {k : Nat} : ∀ {l : List (List Nat)}, (∀ s ∈ l, gd k s) → (∀ c ∈ l.flatten, c ≠ 39) ∧ l.flatten.length ≤ l.length * k
  | [], _ => ⟨fun c hc => (by cases hc), Nat.zero_le _⟩
  | s :: r, h => by
    obtain ⟨a, b⟩ := gd_flat (l := r) fun t ht => h t (.tail _ ht)
    have hs := h s (.head _)
    refine ⟨fun c hc => ?_, ?_⟩
    · rw [List.flatten_cons] at hc
      rcases List.mem_append.mp hc with hc | hc
      · exact hs.1 c hc
      · exact a c hc
    · rw [List.flatten_cons, List.length_append, List.length_cons, Nat.succ_mul]
      have := hs.2
      lia
theorem gd_get {k : Nat} {l : List (List Nat)} (h : ∀ s ∈ l, gd k s) {i : Nat} (hi : i < l.length) : gd k (l.getD i []) := by
  rw [List.getD_eq_getElem?_getD, List.getElem?_eq_getElem hi]
  exact h _ (List.getElem_mem hi)
theorem bin_mod {a : Int} {b : Nat} (h : 0 < b) : binA .Mod (.int a) (.int b) = some (.int (a.fmod b)) := if_pos (show (b : Int) ≠ 0 by lia)
theorem fm0 (a : Int) {b : Nat} (h : 0 < b) : 0 ≤ a.fmod b := by rw [Int.fmod_eq_emod_of_nonneg _ (by lia)]; exact Int.emod_nonneg _ (by omega)
theorem fm1 (a : Int) {b : Nat} (h : 0 < b) : a.fmod b < b := by rw [Int.fmod_eq_emod_of_nonneg _ (by omega)]; exact Int.emod_lt_of_pos _ (by omega)
theorem fm2 (a : Int) {b : Nat} (h : 0 < b) : (a.fmod b).toNat < b := by have := fm0 a h; have := fm1 a h; omega
section
variable {W : Wx} {fn : Fn} {σ : St} {np p : Pos} {e : Expr}
theorem lenP {Q : AV → St → Prop} (hk : fn.sc.kind = .function) (hx : fn.sc.names.lookup ("len" : Str) = some .globalImplicit) (hst : ∀ env, starEach [e] env = [(false, eval e env)]) (h : EV W fn e σ fun a σ1 => ∃ l, a = .pairs l ∧ l.length ≤ 1000 ∧ Q (.int l.length) σ1) : EV W fn (.Call (.Name ("len" : Str) np) [e] [] p) σ Q :=
  lenC hk hx hst (h.mono fun a σ' hh => by obtain ⟨l, rfl, hz, hq⟩ := hh; exact ⟨_, blt_len rfl hz, hq⟩)
theorem g_lshapes : nsIn W.K mainGlobals "_law_shapes" = some (some (.ref 733)) := by kernel_rfl
theorem g_ladds : nsIn W.K mainGlobals "_law_adds" = some (some (.ref 740)) := by kernel_rfl
end
noncomputable def SHgood : Bool := SH.all fun p => (p.1.all fun c => c != 39) && decide (p.1.length ≤ 2) && (p.2.all fun c => c != 39) && decide (p.2.length ≤ 2)
theorem sh_good : ∀ i < SH.length, gd 2 (SH.getD i ([], [])).1 ∧ gd 2 (SH.getD i ([], [])).2 := fun i hi => by
  have h : SHgood = true := by decide +kernel
  have hm : SH.getD i ([], []) ∈ SH := by rw [List.getD_eq_getElem?_getD, List.getElem?_eq_getElem hi]; exact List.getElem_mem hi
  have := List.all_eq_true.mp h _ hm
  simp only [Bool.and_eq_true, decide_eq_true_iff, List.all_eq_true, bne_iff_ne] at this
  exact ⟨⟨this.1.1.1, this.1.1.2⟩, ⟨this.1.2, this.2⟩⟩
section
variable {W : Wx} {ob : Option (Addr × Addr)} {fl : List (Str × AV)} {Q : AV → List (Str × AV) → Prop}
set_option maxHeartbeats 2000000 in
theorem c_word {ns : List Int} (hz : ns.length ≤ 63) (h : ∀ t, gd 40 t → Q (.str t) fl) : CallOK W 777 1 [.ints ns] ob fl Q := by
  refine call_law_word rfl ?_
  show EX W F_law_word _ ⟨[("script", .ints ns)], ob, fl, none⟩ _
  have ok1 : ns.length ≤ 5000 := by lia
  refine EX.cons (asg (by kernel_rfl) (by intro env; rfl) (EV.addI (EV.isl_ns (nm (by kernel_rfl) (by kernel_rfl) (by l_ints) ⟨_, rfl, ok1, EV.cint ⟨_, rfl, fun ms hms => EV.lints (ls := [0, 0, 0, 0]) (by kernel_rfl) (by decide) ⟨_, _, rfl, rfl, by simp only [List.length_cons, List.length_nil]; lia, ?_⟩⟩⟩))))
  refine ⟨_, rfl, ?_⟩
  obtain ⟨nu, hnu⟩ : ∃ nu, nu = ms ++ [0, 0, 0, 0] := ⟨_, rfl⟩
  have hn4 : 4 ≤ nu.length := by rw [hnu, List.length_append]; simp only [List.length_cons, List.length_nil]; lia
  have hnl : nu.length ≤ 5000 := by rw [hnu, List.length_append]; simp only [List.length_cons, List.length_nil]; lia
  rw [← hnu]
  clear hnu
  refine EX.cons (EX1.tables (ls2 := [[101], [97], [111], [117]]) rfl (by kernel_rfl) (by kernel_rfl) (by kernel_rfl) (by kernel_rfl) (by kernel_rfl) (by decide) (by decide) (by decide) (by kernel_rfl) (by decide) (gd_all (by decide +kernel)) (by intro env y; rfl) (by kernel_rfl) (by intro L; kernel_rfl) (EV.fcall0 (EV.glob g_lheads ⟨rfl, c_heads (⟨_, rfl, by decide, gd_all (by decide +kernel), rfl, fun tb htl htb => ?_⟩)⟩ (by kernel_rfl) (by kernel_rfl) (by decide)) (by kernel_rfl) (by decide)))
  dsimp only
  have ht1 : tb.length ≤ 64 := htl
  have hz2 : ([[]] : List (List Nat)).length + PR.length ≤ 5000 := by decide
  have hz3 : (([[]] : List (List Nat)) ++ PR).length + ([[117, 110, 117], [97, 108, 105, 117]] : List (List Nat)).length ≤ 5000 := by decide
  have hz4 : (([[]] : List (List Nat)) ++ PR ++ [[117, 110, 117], [97, 108, 105, 117]]).length + NU.length ≤ 5000 := by decide
  have hz5 : (([[]] : List (List Nat)) ++ PR ++ [[117, 110, 117], [97, 108, 105, 117]] ++ NU).length + ST.length ≤ 5000 := by decide
  have hz7 : (([[]] : List (List Nat)) ++ PR ++ [[117, 110, 117], [97, 108, 105, 117]] ++ NU ++ ST).length ≤ 100 := by decide
  have hz6 : (([[]] : List (List Nat)) ++ PR ++ [[117, 110, 117], [97, 108, 105, 117]] ++ NU ++ ST).length + tb.length ≤ 5000 := by lia
  refine EX.cons (asg (by kernel_rfl) (by intro env; rfl) (EV.addS (EV.addS (EV.addS (EV.addS (EV.addS (EV.lstrs (ls := [[]]) (by kernel_rfl) (by decide) (EV.gstrs g_PR k_PR ⟨_, _, rfl, rfl, hz2, EV.lstrs (ls := [[117, 110, 117], [97, 108, 105, 117]]) (by kernel_rfl) (by decide) ⟨_, _, rfl, rfl, hz3, EV.gstrs g_NU k_NU ⟨_, _, rfl, rfl, hz4, EV.gstrs g_ST k_ST ⟨_, _, rfl, rfl, hz5, nm (by kernel_rfl) (by kernel_rfl) (by l_ints) ⟨_, _, rfl, rfl, hz6, ⟨_, rfl, ?_⟩⟩⟩ (by kernel_rfl) (by kernel_rfl) (by decide)⟩ (by kernel_rfl) (by kernel_rfl) (by decide)⟩⟩ (by kernel_rfl) (by kernel_rfl) (by decide)))))))))
  have gcl : ∀ s ∈ (([[]] : List (List Nat)) ++ PR ++ [[117, 110, 117], [97, 108, 105, 117]] ++ NU ++ ST) ++ tb, gd 10 s := fun s hs => by
    rcases List.mem_append.mp hs with hs | hs
    · exact gd_all (by decide +kernel) s hs
    · exact htb s hs
  obtain ⟨cl, hcl⟩ : ∃ cl, cl = (([[]] : List (List Nat)) ++ PR ++ [[117, 110, 117], [97, 108, 105, 117]] ++ NU ++ ST) ++ tb := ⟨_, rfl⟩
  have hcll : cl.length ≤ 1000 := by rw [hcl, List.length_append]; lia
  have hcl0 : 0 < cl.length := by rw [hcl]; simp only [List.length_append, List.length_cons, List.length_nil]; lia
  rw [← hcl] at gcl ⊢
  clear hcl hz2 hz3 hz4 hz5 hz6 hz7 htb htl
  have hsh : 0 < SH.length := by decide
  have had : 0 < AD.length := by decide
  refine EX.cons (asg (by kernel_rfl) (by intro env; rfl) (EV.itemP (EV.fcall0 (EV.glob g_lshapes ⟨rfl, c_shapes (⟨_, rfl, by decide, EV.bin (EV.itemI (nm (by kernel_rfl) (by kernel_rfl) (by l_ints) ⟨_, rfl, hnl, EV.cint ⟨1, rfl, by lia, by lia, lenP (by kernel_rfl) (by kernel_rfl) (by intro env; rfl) (EV.fcall0 (EV.glob g_lshapes ⟨rfl, c_shapes (⟨_, rfl, by decide, ⟨_, bin_mod hsh, _, rfl, fm0 _ hsh, fm1 _ hsh, _, rfl, ?_⟩⟩)⟩ (by kernel_rfl) (by kernel_rfl) (by decide)) (by kernel_rfl) (by decide))⟩⟩))⟩)⟩ (by kernel_rfl) (by kernel_rfl) (by decide)) (by kernel_rfl) (by decide))))
  obtain ⟨sp, hsp⟩ : ∃ sp, sp = SH.getD (Int.fmod (nu.getD (Int.toNat 1) 0) SH.length).toNat ([], []) := ⟨_, rfl⟩
  have gsp := sh_good _ (fm2 (nu.getD (Int.toNat 1) 0) hsh)
  rw [← hsp] at gsp ⊢
  refine EX.cons (asg (by kernel_rfl) (by intro env; rfl) (EV.bin (EV.bin (EV.pr (j := 0) (by decide) (nm (by kernel_rfl) (by kernel_rfl) (by l_ints) ⟨_, _, rfl, EV.itemS (nm (by kernel_rfl) (by kernel_rfl) (by l_ints) ⟨_, rfl, by lia, EV.bin (EV.itemI (nm (by kernel_rfl) (by kernel_rfl) (by l_ints) ⟨_, rfl, hnl, EV.cint ⟨0, rfl, by lia, by lia, lenL (by kernel_rfl) (by kernel_rfl) (by intro env; rfl) (nm (by kernel_rfl) (by kernel_rfl) (by l_ints) ⟨_, rfl, hcll, ⟨_, bin_mod hcl0, _, rfl, fm0 _ hcl0, fm1 _ hcl0, ?_⟩⟩)⟩⟩))⟩)⟩)))))
  obtain ⟨c0, hc0⟩ : ∃ c0, c0 = cl.getD (Int.fmod (nu.getD (Int.toNat 0) 0) cl.length).toNat [] := ⟨_, rfl⟩
  have gc0 : gd 10 c0 := by rw [hc0]; exact gd_get gcl (fm2 _ hcl0)
  rw [← hc0, if_pos rfl]
  refine ⟨_, bin_str (by have := gsp.1.2; have := gc0.2; lia), EV.pr (j := 1) (by decide) (nm (by kernel_rfl) (by kernel_rfl) (by l_ints) ⟨_, _, rfl, _, bin_str (by rw [if_neg (by decide), List.length_append]; have := gsp.1.2; have := gsp.2.2; have := gc0.2; lia), _, rfl, ?_⟩)⟩
  rw [if_neg (by decide)]
  have gclose : gd 14 (sp.1 ++ c0 ++ sp.2) := gd_app (gd_app gsp.1 gc0) gsp.2
  obtain ⟨close, hclose⟩ : ∃ c, c = sp.1 ++ c0 ++ sp.2 := ⟨_, rfl⟩
  rw [← hclose] at gclose ⊢
  clear hclose
  refine EX.cons (asg (by kernel_rfl) (by intro env; rfl) (EV.bin (EV.itemS (EV.fcall0 (EV.glob g_ladds ⟨rfl, c_adds (⟨_, rfl, by decide, EV.bin (EV.itemI (nm (by kernel_rfl) (by kernel_rfl) (by l_ints) ⟨_, rfl, hnl, EV.cint ⟨2, rfl, by lia, by lia, lenL (by kernel_rfl) (by kernel_rfl) (by intro env; rfl) (EV.fcall0 (EV.glob g_ladds ⟨rfl, c_adds (⟨_, rfl, by decide, ⟨_, bin_mod had, _, rfl, fm0 _ had, fm1 _ had, EV.itemS (EV.fcall0 (EV.glob g_ladds ⟨rfl, c_adds (⟨_, rfl, by decide, EV.bin (EV.itemI (nm (by kernel_rfl) (by kernel_rfl) (by l_ints) ⟨_, rfl, hnl, EV.cint ⟨3, rfl, by lia, by lia, lenL (by kernel_rfl) (by kernel_rfl) (by intro env; rfl) (EV.fcall0 (EV.glob g_ladds ⟨rfl, c_adds (⟨_, rfl, by decide, ⟨_, bin_mod had, _, rfl, fm0 _ had, fm1 _ had, ?_⟩⟩)⟩ (by kernel_rfl) (by kernel_rfl) (by decide)) (by kernel_rfl) (by decide))⟩⟩))⟩)⟩ (by kernel_rfl) (by kernel_rfl) (by decide)) (by kernel_rfl) (by decide))⟩⟩)⟩ (by kernel_rfl) (by kernel_rfl) (by decide)) (by kernel_rfl) (by decide))⟩⟩))⟩)⟩ (by kernel_rfl) (by kernel_rfl) (by decide)) (by kernel_rfl) (by decide)))))
  have gad : ∀ s ∈ AD, gd 3 s := gd_all (by decide +kernel)
  obtain ⟨a2, ha2⟩ : ∃ a2, a2 = AD.getD (Int.fmod (nu.getD (Int.toNat 2) 0) AD.length).toNat [] := ⟨_, rfl⟩
  have ga2 : gd 3 a2 := by rw [ha2]; exact gd_get gad (fm2 _ had)
  obtain ⟨a3, ha3⟩ : ∃ a3, a3 = AD.getD (Int.fmod (nu.getD (Int.toNat 3) 0) AD.length).toNat [] := ⟨_, rfl⟩
  have ga3 : gd 3 a3 := by rw [ha3]; exact gd_get gad (fm2 _ had)
  rw [← ha2, ← ha3]
  refine ⟨_, bin_str (by have := ga2.2; have := ga3.2; lia), _, rfl, ?_⟩
  refine EX.cons (asg (by kernel_rfl) (by intro env; rfl) (EV.join0 rfl (EV.compT (a := 741) (T := PI) (by kernel_rfl) (by kernel_rfl) (by kernel_rfl) (by kernel_rfl) (by decide) (fun g => by rfl) (by decide) rfl (fun g => by rfl) g_PI k_PI (gd_all (by decide +kernel)) (by decide) (by decide) (by intro env y; rfl)
    (EV.isl_ss (nm (by kernel_rfl) (by kernel_rfl) (by l_ints) ⟨_, rfl, ok1, EV.cint ⟨_, rfl, EV.cint ⟨_, rfl, fun ms2 hms2 => ?_⟩⟩⟩))) (plE _) (by intro env; with_unfolding_all rfl) (by intro env; rfl)))
  refine ⟨_, rfl, by lia, fun ls hll hlg => ?_⟩
  obtain ⟨f1, f2⟩ := gd_flat hlg
  have hfl : ls.flatten.length ≤ 300 := by lia
  refine ⟨_, rfl, by omega, by lia, _, rfl, ?_⟩
  obtain ⟨front, hfr⟩ : ∃ f, f = ls.flatten := ⟨_, rfl⟩
  rw [← hfr] at f1 hfl ⊢
  refine EX.cons (EX1.ret (EV.bin (EV.bin (EV.slice_ns (nm (by kernel_rfl) (by kernel_rfl) (by l_ints) ⟨_, rfl, by omega, EV.cint ⟨_, rfl, nm (by kernel_rfl) (by kernel_rfl) (by l_ints) ?_⟩⟩) (by intro _ _ _; rfl) (by intro _ _ _; rfl)))))
  have e5 : slA front none (some 5) = front.take 5 := by
    unfold slA clip
    simp only [Option.elim, List.drop_zero, Nat.sub_zero]
    rw [if_neg (by lia), List.take_eq_take_iff]
    lia
  rw [e5]
  have gfr : gd 5 (front.take 5) := gd_take (k := 300) ⟨f1, hfl⟩
  refine ⟨_, bin_str (by have := gfr.2; have := gclose.2; lia), nm (by kernel_rfl) (by kernel_rfl) (by l_ints) ⟨_, bin_str (by rw [List.length_append, List.length_append]; have := gfr.2; have := gclose.2; have := ga2.2; have := ga3.2; lia), _, .inl rfl, rfl, h _ ?_⟩⟩
  exact gd_le (gd_app (gd_app gfr gclose) (gd_app ga2 ga3)) (by lia)
end
end
noncomputable section
open PySem PySem.W PySem.Calls PyProof.Rows Builtin
open H (Sets fEnd KF kf_in QV looseV PW)
namespace A
noncomputable def hat : List Nat → List Nat
  | [] => []
  | [a] => [a]
  | a :: b :: r => if a = 117 ∧ b = 120 then 365 :: hat r else a :: hat (b :: r)
theorem hat_cons {a : Nat} (h : a ≠ 117) (r : List Nat) : hat (a :: r) = a :: hat r := by
  cases r with
  | nil => rfl
  | cons b r => rw [hat, if_neg (fun q => h q.1)]
theorem hat_u {b : Nat} (h : b ≠ 120) (r : List Nat) : hat (117 :: b :: r) = 117 :: hat (b :: r) := by
  rw [hat, if_neg (fun q => h q.2)]
theorem hat_ux (r : List Nat) : hat (117 :: 120 :: r) = 365 :: hat r := by
  rw [hat, if_pos ⟨rfl, rfl⟩]
theorem hatS_u (acc : List (List Nat)) : hatS (acc ++ [[117]]) 120 = acc ++ [[365]] := by
  unfold hatS
  rw [if_pos ⟨rfl, by simp⟩, List.dropLast_concat]
theorem hatS_n {acc : List (List Nat)} {c : Nat} (h : ¬ (c = 120 ∧ acc.getLast? = some [117])) : hatS acc c = acc ++ [[c]] := by
  unfold hatS
  rw [if_neg h]
theorem hat_run : ∀ (w : List Nat) (acc : List (List Nat)), (acc.getLast? ≠ some [117] → (w.foldl hatS acc).flatten = acc.flatten ++ hat w) ∧ ((w.foldl hatS (acc ++ [[117]])).flatten = acc.flatten ++ hat (117 :: w))
  | [], acc => ⟨fun _ => (List.append_nil _).symm, by simp [hat]⟩
  | c :: r, acc => by
    have ih := hat_run r
    refine ⟨fun hl => ?_, ?_⟩
    · rw [List.foldl_cons, hatS_n (fun q => hl q.2)]
      by_cases hc : c = 117
      · subst hc
        exact (ih acc).2
      · rw [(ih (acc ++ [[c]])).1 (by simpa using hc), hat_cons hc]
        simp
    · rw [List.foldl_cons]
      by_cases hx : c = 120
      · subst hx
        rw [hatS_u, (ih (acc ++ [[365]])).1 (by simp), hat_ux]
        simp
      · rw [hatS_n (fun q => hx q.1), hat_u hx]
        by_cases hc : c = 117
        · subst hc
          rw [(ih (acc ++ [[117]])).2]
          simp
        · rw [(ih (acc ++ [[117]] ++ [[c]])).1 (by simpa using hc), hat_cons hc]
          simp
theorem hatted_hat (w : List Nat) : hatted w = hat w := by
  have := (hat_run w []).1 (by simp)
  simpa [hatted] using this
theorem acc_one {a : Nat} (h : accL.contains [a] = false) : one a = a := by
  have : a ≠ 225 ∧ a ≠ 233 ∧ a ≠ 237 ∧ a ≠ 243 ∧ a ≠ 250 := by
    simp only [accL, List.contains_cons, List.contains_nil, Bool.or_eq_false_iff, beq_eq_false_iff_ne, ne_eq, List.cons.injEq, and_true] at h
    exact ⟨h.1, h.2.1, h.2.2.1, h.2.2.2.1, h.2.2.2.2⟩
  unfold one
  rw [if_neg this.1, if_neg this.2.1, if_neg this.2.2.1, if_neg this.2.2.2.1, if_neg this.2.2.2.2]
noncomputable def isF (c : Nat) : Bool := [113, 119, 120, 121].contains c
noncomputable def upd2 (fl : Bool) (c : Nat) : Bool := if isF c then true else if c = 45 then false else fl
theorem upd_eq {a : Nat} (h : accL.contains [a] = false) (fl : Bool) : upd fl a = upd2 fl a := by
  have : a ≠ 225 ∧ a ≠ 233 ∧ a ≠ 237 ∧ a ≠ 243 ∧ a ≠ 250 := by
    simp only [accL, List.contains_cons, List.contains_nil, Bool.or_eq_false_iff, beq_eq_false_iff_ne, ne_eq, List.cons.injEq, and_true] at h
    exact ⟨h.1, h.2.1, h.2.2.1, h.2.2.2.1, h.2.2.2.2⟩
  unfold upd upd2 isF
  have e : [113, 119, 120, 121, 225, 233, 237, 243, 250].contains a = [113, 119, 120, 121].contains a := by
    simp [this.1, this.2.1, this.2.2.1, this.2.2.2.1, this.2.2.2.2]
  rw [e]
theorem pre_u {a : Nat} (h : preL.contains [a] = false) (hh : (hatOf a).isSome = true) : a = 117 := by
  unfold hatOf at hh
  simp only [preL, List.contains_cons, List.contains_nil, Bool.or_eq_false_iff, beq_eq_false_iff_ne, ne_eq, List.cons.injEq, and_true] at h
  rw [if_neg h.1, if_neg h.2.1, if_neg h.2.2.1, if_neg h.2.2.2.1, if_neg h.2.2.2.2] at hh
  by_cases e : a = 117
  · exact e
  · rw [if_neg e] at hh; cases hh
theorem canon_hat : ∀ (w : List Nat) (b : List Nat), marked b w = false → canon w = hat w ∧ ∀ fl, frn fl w = (hat w).foldl upd2 fl
  | [], _, _ => ⟨rfl, fun _ => rfl⟩
  | [a], b, h => by
    rw [marked, Bool.or_eq_false_iff, Bool.or_eq_false_iff] at h
    exact ⟨by show [one a] = [a]; rw [acc_one h.1.1], fun fl => upd_eq h.1.1 fl⟩
  | a :: c :: r, b, h => by
    have hm := h
    rw [marked, Bool.or_eq_false_iff, Bool.or_eq_false_iff] at h
    obtain ⟨⟨h1, _⟩, h2⟩ := h
    obtain ⟨i1, i2⟩ := canon_hat (c :: r) [a] h2
    rw [marked, Bool.or_eq_false_iff, Bool.or_eq_false_iff] at h2
    obtain ⟨⟨h3, h4⟩, h5⟩ := h2
    by_cases hp : c = 120 ∧ (hatOf a).isSome = true
    · obtain ⟨rfl, hh⟩ := hp
      have h4 : preL.contains [a] = false := by simpa using h4
      have := pre_u h4 hh
      subst this
      obtain ⟨j1, j2⟩ := canon_hat r [120] h5
      rw [hat_ux, canon_pair (h := 365) rfl, j1]
      exact ⟨rfl, fun fl => by rw [frn_pair (h := 365) rfl, j2]; rfl⟩
    · have e1 : canon (a :: c :: r) = one a :: canon (c :: r) := by rw [canon, if_neg hp]
      have e2 : ∀ fl, frn fl (a :: c :: r) = frn (upd fl a) (c :: r) := fun fl => by rw [frn, if_neg hp]
      have e3 : hat (a :: c :: r) = a :: hat (c :: r) := by
        rw [hat, if_neg]
        rintro ⟨rfl, rfl⟩
        exact hp ⟨rfl, rfl⟩
      rw [e1, e3, acc_one h1, i1]
      exact ⟨rfl, fun fl => by rw [e2, i2, upd_eq h1]; rfl⟩
theorem fold_part (u : List Nat) : u.foldl upd2 false = (part u.reverse).any isF := by
  have key : ∀ R : List Nat, R.reverse.foldl upd2 false = (part R).any isF := by
    intro R
    induction R with
    | nil => rfl
    | cons c R ih =>
      rw [List.reverse_cons, List.foldl_append, ih]
      show upd2 ((part R).any isF) c = _
      unfold upd2
      by_cases h : c = 45
      · subst h
        rfl
      · have e : part (c :: R) = c :: part R := by
          unfold part
          rw [List.takeWhile_cons, if_pos (by simpa using h)]
        rw [e, List.any_cons, if_neg h]
        cases isF c <;> rfl
  have := key u.reverse
  rwa [List.reverse_reverse] at this
theorem placeOf_congr {u v : List Nat} : ∀ n, (∀ k, k < n → u.getD k 0 = v.getD k 0) → placeOf u n = placeOf v n
  | 0, _ => rfl
  | n + 1, h => by
    rw [placeOf_succ, placeOf_succ, h n (by lia), placeOf_congr n fun k hk => h k (by lia)]
theorem part_le (R : List Nat) : (part R).length ≤ R.length := by
  obtain ⟨r, hr⟩ := part_pre R
  have := congrArg List.length hr
  rw [List.length_append] at this
  lia
theorem place_part (u : List Nat) : placeOf u u.length = u.length - (part u.reverse).length := by
  have key : ∀ R : List Nat, placeOf R.reverse R.length = R.length - (part R).length := by
    intro R
    induction R with
    | nil => rfl
    | cons c R ih =>
      rw [List.length_cons, placeOf_succ, List.reverse_cons]
      have e1 : (R.reverse ++ [c]).getD R.length 0 = c := by simp [List.getD_eq_getElem?_getD, List.getElem?_append_right]
      have e2 : placeOf (R.reverse ++ [c]) R.length = placeOf R.reverse R.length := placeOf_congr _ fun k hk => by
        rw [List.getD_eq_getElem?_getD, List.getD_eq_getElem?_getD, List.getElem?_append_left (by rw [List.length_reverse]; exact hk)]
      rw [e1, e2, ih]
      unfold part
      rw [List.takeWhile_cons]
      by_cases h : c = 45
      · subst h; simp
      · rw [if_neg (by simpa using h), if_pos (by simpa using h), List.length_cons]
        show R.length - (part R).length = R.length + 1 - ((part R).length + 1)
        lia
  have := key u.reverse
  rwa [List.reverse_reverse, List.length_reverse] at this
theorem drop_part (u : List Nat) : u.drop (placeOf u u.length) = (part u.reverse).reverse := by
  obtain ⟨r, hr⟩ := part_pre u.reverse
  have h2 : u = r.reverse ++ (part u.reverse).reverse := by
    rw [← List.reverse_append, ← hr, List.reverse_reverse]
  rw [place_part]
  have e : u.length - (part u.reverse).length = r.reverse.length := by
    have h3 := congrArg List.length hr
    rw [List.length_append, List.length_reverse] at h3
    rw [List.length_reverse]
    omega
  rw [e]
  conv => lhs; rw [h2]
  rw [List.drop_left]
theorem QL_F (c : Nat) : QL.contains [c] = isF c := by
  unfold QL isF
  simp [List.contains_cons]
theorem foreign_eq (u : List Nat) : decide ((((u.drop (placeOf u u.length)).filter fun c => QL.contains [c]).map fun c => [c]) ≠ []) = (part u.reverse).any isF := by
  rw [drop_part, Bool.eq_iff_iff, decide_eq_true_iff, List.any_eq_true]
  constructor
  · intro h
    rw [ne_eq, List.map_eq_nil_iff] at h
    obtain ⟨c, hc⟩ := List.exists_mem_of_ne_nil _ h
    obtain ⟨hc, h⟩ := List.mem_filter.mp hc
    rw [QL_F] at h
    exact ⟨c, List.mem_reverse.mp hc, h⟩
  · rintro ⟨c, hc, h⟩ e
    rw [List.map_eq_nil_iff, List.filter_eq_nil_iff] at e
    have := e c (List.mem_reverse.mpr hc)
    rw [QL_F] at this
    exact this h
end A
end
noncomputable section
open PySem PySem.W PySem.Calls PyProof.Rows Builtin
open H (Sets fEnd KF kf_in QV looseV PW)
namespace A
theorem contains_same {l1 l2 : List (List Nat)} (h : ((l1.all fun x => l2.contains x) && (l2.all fun x => l1.contains x)) = true) (x : List Nat) : l1.contains x = l2.contains x := by
  rw [Bool.and_eq_true, List.all_eq_true, List.all_eq_true] at h
  rw [Bool.eq_iff_iff]
  exact ⟨fun e => h.1 x (List.contains_iff_mem.mp e), fun e => h.2 x (List.contains_iff_mem.mp e)⟩
theorem inT_rev (T : List Am) (B : List Nat) : inT T B = (T.map (·.s)).contains B.reverse := by
  unfold inT
  rw [Bool.eq_iff_iff, List.contains_iff_mem, List.contains_iff_mem, List.mem_map, List.mem_map]
  constructor
  · rintro ⟨m, hm, rfl⟩; exact ⟨m, hm, (List.reverse_reverse _).symm⟩
  · rintro ⟨m, hm, e⟩; exact ⟨m, hm, by rw [e, List.reverse_reverse]⟩
theorem in2 (B : List Nat) : inT T_a_2 B = PR.contains B.reverse := by
  rw [inT_rev]; exact contains_same (by decide +kernel) _
theorem in4 (B : List Nat) : inT T_a_4 B = [[117, 110, 117], [97, 108, 105, 117]].contains B.reverse := by
  rw [inT_rev]; exact contains_same (by decide +kernel) _
theorem in5 (B : List Nat) : inT T_a_5 B = ST.contains B.reverse := by
  rw [inT_rev]; exact contains_same (by decide +kernel) _
theorem in8 (B : List Nat) : (inT T_a_8 B || B.isEmpty) = LH.contains B.reverse := by
  have h : ([] :: T_a_8.map (·.s)).contains B.reverse = LH.contains B.reverse := contains_same (by decide +kernel) _
  rw [← h, inT_rev, List.contains_cons, Bool.or_comm]
  congr 1
  cases B with
  | nil => rfl
  | cons a r =>
    rw [Bool.eq_iff_iff]
    simp
theorem ends_rev (P k : List Nat) : endsW P.reverse k = k.reverse.isPrefixOf P := by
  unfold endsW List.isSuffixOf
  rw [List.reverse_reverse]
theorem part_split (R : List Nat) : ∃ rest, R = part R ++ rest ∧ hy rest = true := by
  refine ⟨R.dropWhile (· != 45), (List.takeWhile_append_dropWhile ..).symm, ?_⟩
  induction R with
  | nil => rfl
  | cons a r ih =>
    rw [List.dropWhile_cons]
    by_cases h : a = 45
    · subst h; rfl
    · rw [if_pos (by simpa using h)]; exact ih
theorem pre_part : ∀ (k R : List Nat), (∀ c ∈ k, c ≠ 45) → k.isPrefixOf R = k.isPrefixOf (part R)
  | [], R, _ => by simp
  | a :: k, [], _ => rfl
  | a :: k, c :: R, h => by
    have ih := pre_part k R fun d hd => h d (.tail _ hd)
    unfold part
    rw [List.takeWhile_cons]
    by_cases hc : c = 45
    · subst hc
      have := h a (.head _)
      rw [if_neg (by decide)]
      simp [List.isPrefixOf, this]
    · rw [if_pos (by simpa using hc)]
      show (a == c && k.isPrefixOf R) = (a == c && k.isPrefixOf (part R))
      rw [ih]
theorem any_same {l1 l2 : List (List Nat)} (h : ((l1.all fun x => l2.contains x) && (l2.all fun x => l1.contains x)) = true) (f : List Nat → Bool) : l1.any f = l2.any f := by
  rw [Bool.and_eq_true, List.all_eq_true, List.all_eq_true] at h
  rw [Bool.eq_iff_iff, List.any_eq_true, List.any_eq_true]
  exact ⟨fun ⟨x, a, b⟩ => ⟨x, List.contains_iff_mem.mp (h.1 x a), b⟩, fun ⟨x, a, b⟩ => ⟨x, List.contains_iff_mem.mp (h.2 x a), b⟩⟩
theorem merged_eq (R : List Nat) : pMerged R = NU.any (endsW (part R).reverse) := by
  have e1 : pMerged R = (T_a_6.flatMap fun m => T_a_7.map fun m' => m.s.reverse ++ m'.s.reverse).any (fun k => k.isPrefixOf R) := by
    unfold pMerged
    rw [List.any_flatMap]
    congr 1
  have e2 : NU.any (endsW (part R).reverse) = (NU.map List.reverse).any (fun k => k.isPrefixOf (part R)) := by
    rw [List.any_map]
    congr 1
    funext k
    exact ends_rev _ _
  rw [e1, e2, any_same (l2 := NU.map List.reverse) (by decide +kernel)]
  have hn : ((NU.map List.reverse).all fun k => k.all fun c => c != 45) = true := by decide +kernel
  rw [Bool.eq_iff_iff, List.any_eq_true, List.any_eq_true]
  have key : ∀ k ∈ NU.map List.reverse, k.isPrefixOf R = k.isPrefixOf (part R) := fun k hk => pre_part k R fun c hc => by
    have := List.all_eq_true.mp (List.all_eq_true.mp hn k hk) c hc
    simpa using this
  exact ⟨fun ⟨k, a, b⟩ => ⟨k, a, by rw [← key k a]; exact b⟩, fun ⟨k, a, b⟩ => ⟨k, a, by rw [key k a]; exact b⟩⟩
structure Sh (R off B rest : List Nat) : Prop where
  eq : R = off.reverse ++ (B ++ rest)
  pt : part R = off.reverse ++ B
  of : offOf (part R).reverse = off
  hy : hy rest = true
  no : ∀ c ∈ B, c ≠ 45
  kind : (off = [] ∧ B.head? ≠ some 110 ∧ B.head? ≠ some 106) ∨ (off = [110] ∧ B.head? ≠ some 106) ∨ off = [106] ∨ off = [106, 110]
theorem offOf_rev (P : List Nat) : offOf P.reverse = if [110, 106].isPrefixOf P then [106, 110] else if [106].isPrefixOf P then [106] else if [110].isPrefixOf P then [110] else [] := by
  unfold offOf
  simp only [List.foldl_cons, List.foldl_nil]
  rw [ends_rev, ends_rev, ends_rev]
  rfl
theorem sh_of (R : List Nat) : ∃ off B rest, Sh R off B rest := by
  obtain ⟨rest, hr, hh⟩ := part_split R
  have no := part_no (R := R)
  obtain ⟨P, hP⟩ : ∃ P, P = part R := ⟨_, rfl⟩
  rw [← hP] at hr no
  have mk : ∀ off B, P = off.reverse ++ B → offOf P.reverse = off → ((off = [] ∧ B.head? ≠ some 110 ∧ B.head? ≠ some 106) ∨ (off = [110] ∧ B.head? ≠ some 106) ∨ off = [106] ∨ off = [106, 110]) → ∃ off B rest, Sh R off B rest := fun off B e1 e2 e3 =>
    ⟨off, B, rest, ⟨by rw [hr, e1, List.append_assoc], by rw [← hP, e1], by rw [← hP, e2], hh, fun c hc => no c (by rw [e1]; exact List.mem_append_right _ hc), e3⟩⟩
  match P, mk with
  | [], mk => exact mk [] [] rfl (by rw [offOf_rev]; rfl) (.inl ⟨rfl, by simp, by simp⟩)
  | a :: P', mk =>
    by_cases h1 : a = 110
    · subst h1
      match P', mk with
      | [], mk => exact mk [110] [] rfl (by rw [offOf_rev]; rfl) (.inr (.inl ⟨rfl, by simp⟩))
      | b :: P2, mk =>
        by_cases h2 : b = 106
        · subst h2
          exact mk [106, 110] P2 rfl (by rw [offOf_rev]; rfl) (.inr (.inr (.inr rfl)))
        · refine mk [110] (b :: P2) rfl ?_ (.inr (.inl ⟨rfl, by simpa using h2⟩))
          rw [offOf_rev, if_neg (by simp [List.isPrefixOf, Ne.symm h2]), if_neg (by simp [List.isPrefixOf]), if_pos (by simp [List.isPrefixOf])]
    · by_cases h2 : a = 106
      · subst h2
        refine mk [106] P' rfl ?_ (.inr (.inr (.inl rfl)))
        rw [offOf_rev, if_neg (by simp [List.isPrefixOf]), if_pos (by simp [List.isPrefixOf])]
      · refine mk [] (a :: P') rfl ?_ (.inl ⟨rfl, by simpa using h1, by simpa using h2⟩)
        rw [offOf_rev, if_neg (by simp [List.isPrefixOf, Ne.symm h1]), if_neg (by simp [List.isPrefixOf, Ne.symm h2]), if_neg (by simp [List.isPrefixOf, Ne.symm h1])]
noncomputable def nn (off : List Nat) : Bool := [[], [110]].contains off
noncomputable def tabR (B : List Nat) : Bool := match B with
  | _ :: 105 :: B3 => inT T_a_8 B3 || B3.isEmpty
  | _ => false
theorem offc_ne {c : Nat} {X : List Nat} (h : X.head? ≠ some c) : offc c X = X := by
  cases X with
  | nil => rfl
  | cons a r => rw [offc, if_neg (fun e => h (by rw [e]; rfl))]
theorem hy_head {rest : List Nat} (h : hy rest = true) {c : Nat} (hc : c ≠ 45) : rest.head? ≠ some c := by
  cases rest with
  | nil => simp
  | cons a r =>
    have : a = 45 := by simpa [A.hy] using h
    subst this
    simpa using Ne.symm hc
theorem hy_part {rest : List Nat} (h : hy rest = true) : part rest = [] := part_nil_iff.mpr h
section
variable {R off B rest : List Nat}
theorem Sh.zhead (s : Sh R off B rest) {c : Nat} (hc : c ≠ 45) (hB : B.head? ≠ some c) : (B ++ rest).head? ≠ some c := by
  cases B with
  | nil => exact hy_head s.hy hc
  | cons a r => simpa using hB
theorem Sh.zpart (s : Sh R off B rest) : part (B ++ rest) = B := by
  rw [part_app s.no, hy_part s.hy, List.append_nil]
theorem Sh.off2 (s : Sh R off B rest) : offc 106 (offc 110 R) = B ++ rest := by
  rw [s.eq]
  rcases s.kind with ⟨rfl, h1, h2⟩ | ⟨rfl, h2⟩ | rfl | rfl
  · show offc 106 (offc 110 (B ++ rest)) = _
    rw [offc_ne (s.zhead (by decide) h1), offc_ne (s.zhead (by decide) h2)]
  · show offc 106 (offc 110 (110 :: (B ++ rest))) = _
    rw [offc, if_pos rfl, offc_ne (s.zhead (by decide) h2)]
  · show offc 106 (offc 110 (106 :: (B ++ rest))) = _
    rw [offc, if_neg (by decide), offc, if_pos rfl]
  · show offc 106 (offc 110 (110 :: 106 :: (B ++ rest))) = _
    rw [offc, if_pos rfl, offc, if_pos rfl]
theorem Sh.off1 (s : Sh R off B rest) : (nn off = true ∧ offc 110 R = B ++ rest) ∨ (nn off = false ∧ offc 110 R = 106 :: (B ++ rest)) := by
  rw [s.eq]
  rcases s.kind with ⟨rfl, h1, h2⟩ | ⟨rfl, h2⟩ | rfl | rfl
  · exact .inl ⟨rfl, offc_ne (s.zhead (by decide) h1)⟩
  · exact .inl ⟨rfl, by show offc 110 (110 :: (B ++ rest)) = _; rw [offc, if_pos rfl]⟩
  · exact .inr ⟨rfl, by show offc 110 (106 :: (B ++ rest)) = _; rw [offc, if_neg (by decide)]⟩
  · exact .inr ⟨rfl, by show offc 110 (110 :: 106 :: (B ++ rest)) = _; rw [offc, if_pos rfl]⟩
theorem pron_no106 (P : List Nat) : inT T_a_2 (106 :: P) = false := by
  have h : (T_a_2.all fun m => m.s.reverse.head? != some 106) = true := by decide +kernel
  unfold inT
  rw [Bool.eq_false_iff]
  intro e
  rw [List.contains_iff_mem, List.mem_map] at e
  obtain ⟨m, hm, e⟩ := e
  have := List.all_eq_true.mp h m hm
  rw [e] at this
  simp at this
theorem Sh.pron (s : Sh R off B rest) : pPron R = if nn off && inT T_a_2 B then some (B ++ rest) else none := by
  unfold pPron
  rcases s.off1 with ⟨h1, h2⟩ | ⟨h1, h2⟩
  · rw [h2, s.zpart, h1, Bool.true_and]
  · rw [h2, h1, Bool.false_and]
    have : part (106 :: (B ++ rest)) = 106 :: B := by
      have e := part_app (k := 106 :: B) (r := rest) (fun c hc => by
        rcases List.mem_cons.mp hc with rfl | hc
        · decide
        · exact s.no c hc)
      rw [hy_part s.hy, List.append_nil] at e
      exact e
    rw [this, pron_no106]
    rfl
theorem Sh.ujn (s : Sh R off B rest) : pUjn R = if inT T_a_4 B then some (B ++ rest) else none := by
  unfold pUjn
  rw [s.off2, s.zpart]
set_option tactic.hygienic true in
theorem Sh.corr (s : Sh R off B rest) : pCorr R = if tabR B && ((nn off && B.head? == some 101) || B.head?.any isAou) then some (B ++ rest) else none := by
  have key : corrHead R = if nn off = true ∧ (B ++ rest).head? = some 101 then some ((B ++ rest).tail, B ++ rest) else match B ++ rest with
      | [] => none
      | c :: r => if isAou c then some (r, c :: r) else none := by
    unfold corrHead
    rw [s.off2]
    rcases s.off1 with ⟨h1, h2⟩ | ⟨h1, h2⟩
    · rw [h2, h1]
      by_cases hh : (B ++ rest).head? = some 101
      · rw [if_pos hh, if_pos ⟨rfl, hh⟩]
      · rw [if_neg hh, if_neg (fun q => hh q.2)]
        all_goals (cases B ++ rest <;> rfl)
    · rw [h2, h1, if_neg (by simp), if_neg (by simp)]
      all_goals (cases B ++ rest <;> rfl)
  unfold pCorr
  rw [key]
  cases hB : B with
  | nil =>
    rw [List.nil_append, if_neg (fun q => hy_head s.hy (by decide) q.2)]
    have : tabR [] = false := rfl
    rw [this, Bool.false_and, if_neg (by decide)]
    have hr := s.hy
    cases rest with
    | nil => rfl
    | cons a r =>
      have : a = 45 := by simpa [A.hy] using hr
      subst this
      rfl
  | cons c B2 =>
    have e1 : tabR (c :: B2) = (match B2 ++ rest with | [] => false | d :: R3 => if d = 105 then (inT T_a_8 (part R3) || (part R3).isEmpty) else false) := by
      cases B2 with
      | nil =>
        have hr := s.hy
        cases rest with
        | nil => rfl
        | cons a r =>
          have : a = 45 := by simpa [A.hy] using hr
          subst this
          rfl
      | cons d B3 =>
        have hp : part (B3 ++ rest) = B3 := by
          rw [part_app (fun c hc => s.no c (by rw [hB]; exact .tail _ (.tail _ hc))), hy_part s.hy, List.append_nil]
        show tabR (c :: d :: B3) = if d = 105 then (inT T_a_8 (part (B3 ++ rest)) || (part (B3 ++ rest)).isEmpty) else false
        rw [hp]
        by_cases hd : d = 105
        · subst hd; rw [if_pos rfl]; rfl
        · rw [if_neg hd]
          unfold tabR
          split
          · rename_i h; cases h; exact absurd rfl hd
          · rfl
    have e2 : ∀ X : Option (List Nat), (match (some (B2 ++ rest, c :: (B2 ++ rest)) : Option (List Nat × List Nat)) with
        | none => none
        | some (R2, b) => match R2 with
          | [] => none
          | c :: R3 => if c = 105 then (if inT T_a_8 (part R3) || (part R3).isEmpty then some b else none) else none) = if tabR (c :: B2) then some (c :: (B2 ++ rest)) else none := fun _ => by
      rw [e1]
      cases B2 ++ rest with
      | nil => rfl
      | cons d R3 =>
        by_cases hd : d = 105
        · subst hd; rfl
        · simp [hd]
    show (match (if nn off = true ∧ (some c : Option Nat) = some 101 then some (B2 ++ rest, c :: (B2 ++ rest)) else if isAou c = true then some (B2 ++ rest, c :: (B2 ++ rest)) else none : Option (List Nat × List Nat)) with
        | none => none
        | some (R2, b) => match R2 with
          | [] => none
          | c :: R3 => if c = 105 then (if inT T_a_8 (part R3) || (part R3).isEmpty then some b else none) else none) = if (tabR (c :: B2) && ((nn off && (some c : Option Nat) == some 101) || isAou c)) = true then some (c :: (B2 ++ rest)) else none
    by_cases h1 : nn off = true ∧ (some c : Option Nat) = some 101
    · rw [if_pos h1, e2 none]
      have : (nn off && (some c : Option Nat) == some 101) = true := by rw [h1.1, h1.2]; rfl
      rw [this, Bool.true_or, Bool.and_true]
    · rw [if_neg h1]
      have : (nn off && (some c : Option Nat) == some 101) = false := by
        rw [Bool.and_eq_false_iff]
        by_cases q : nn off = true
        · exact .inr (beq_eq_false_iff_ne.mpr fun e => h1 ⟨q, e⟩)
        · exact .inl (by simpa using q)
      rw [this, Bool.false_or]
      by_cases h2 : isAou c = true
      · rw [if_pos h2, e2 none, h2, Bool.and_true]
      · rw [if_neg h2]
        have : isAou c = false := by simpa using h2
        rw [this, Bool.and_false]
        rfl
end
end A
end
noncomputable section
open PySem PySem.W PySem.Calls PyProof.Rows Builtin
open H (Sets fEnd KF kf_in QV looseV PW)
namespace A
theorem last_rev (B : List Nat) : B.reverse.drop (B.reverse.length - 1) = B.take 1 := by
  cases B with
  | nil => rfl
  | cons c r =>
    rw [List.reverse_cons, List.length_append, List.length_cons, List.length_nil, Nat.add_sub_cancel, List.drop_left]
    rfl
set_option tactic.hygienic true in
theorem table_rev (B : List Nat) : table B.reverse = tabR B := by
  unfold table
  match B with
  | [] => rfl
  | [c] => rfl
  | c :: d :: B3 =>
    have e1 : (c :: d :: B3).reverse.take ((c :: d :: B3).reverse.length - 1) = (d :: B3).reverse := by
      rw [List.reverse_cons (a := c), List.length_append, List.length_cons, List.length_nil, Nat.add_sub_cancel, List.take_left]
    have e2 : (c :: d :: B3).reverse.take ((c :: d :: B3).reverse.length - 2) = B3.reverse := by
      have : (c :: d :: B3).reverse = B3.reverse ++ [d, c] := by simp
      rw [this, List.length_append, List.length_cons, List.length_cons, List.length_nil, Nat.add_sub_cancel, List.take_left]
    rw [e1, e2, ends_rev, ← in8]
    show ([105].isPrefixOf (d :: B3) && _) = tabR (c :: d :: B3)
    by_cases h : d = 105
    · subst h
      simp [List.isPrefixOf, tabR]
    · have : tabR (c :: d :: B3) = false := by
        unfold tabR
        split
        · rename_i q; cases q; exact absurd rfl h
        · rfl
      rw [this]
      simp [List.isPrefixOf, Ne.symm h]
theorem fin_rev (X : List Nat) : fin X.reverse = (offc 45 X).reverse := by
  unfold fin
  rw [ends_rev]
  cases X with
  | nil => rfl
  | cons c r =>
    show (if [45].isPrefixOf (c :: r) = true then _ else _) = _
    by_cases h : c = 45
    · subst h
      rw [if_pos (by simp [List.isPrefixOf]), offc, if_pos rfl, List.reverse_cons, List.length_append, List.length_cons, List.length_nil, Nat.add_sub_cancel, List.take_left]
    · rw [if_neg (by simp [List.isPrefixOf, Ne.symm h]), offc, if_neg h]
theorem take_rev {R : List Nat} {k : Nat} (h : k ≤ R.length) : R.reverse.take (R.reverse.length - k) = (R.drop k).reverse := by
  rw [List.take_reverse, List.length_reverse]
  congr 2
  omega
theorem lv_vow (c : Nat) : LV.contains [c] = isVow c := by
  unfold LV isVow
  rw [Bool.eq_iff_iff]
  simp
theorem ld_dig (c : Nat) : LD.contains [c] = isDig c := by
  unfold LD isDig
  rw [Bool.eq_iff_iff]
  simp
noncomputable def asR : List Nat → Bool
  | c :: d :: _ => c == 115 && [97, 105, 111, 117].contains d
  | _ => false
theorem as_any (Z : List Nat) : [[97, 115], [105, 115], [111, 115], [117, 115]].any (endsW Z.reverse) = asR Z := by
  simp only [List.any_cons, List.any_nil, ends_rev]
  match Z with
  | [] => rfl
  | [c] => simp [List.isPrefixOf, asR]
  | c :: d :: r =>
    show (((115 == c) && ((97 == d) && true)) || (((115 == c) && ((105 == d) && true)) || (((115 == c) && ((111 == d) && true)) || (((115 == c) && ((117 == d) && true)) || false)))) = (c == 115 && [97, 105, 111, 117].contains d)
    have e : (115 == c) = (c == 115) := by rw [Bool.eq_iff_iff, beq_iff_eq, beq_iff_eq]; exact eq_comm
    rw [e]
    have cm : ∀ k : Nat, (k == d) = (d == k) := fun k => by rw [Bool.eq_iff_iff, beq_iff_eq, beq_iff_eq]; exact eq_comm
    rw [cm 97, cm 105, cm 111, cm 117]
    cases c == 115
    · rfl
    · simp only [Bool.true_and, Bool.and_true, Bool.or_false, List.contains_cons, List.contains_nil]
noncomputable def szR (Z off : List Nat) : Nat :=
  if off == [] then (if LV.contains (Z.take 1) then 1 else if asR Z then 2 else 0)
  else if [[97], [111]].contains (Z.take 1) || (Z.take 1 == [101] && off == [110]) then off.length + 1
  else if Z.take 1 == [45] || LD.contains (Z.take 1) then off.length else 0
theorem size_rev (Z off : List Nat) : sizeOf Z.reverse off = szR Z off := by
  unfold sizeOf szR
  rw [last_rev, as_any]
noncomputable def es (R : List Nat) : Nat := if ((stdLen R).2 && !dh (R.drop (stdLen R).1)) = true then 0 else (stdLen R).1
theorem pStd_es (R : List Nat) : pStd R = if es R == 0 then none else some (offc 45 (R.drop (es R))) := by
  unfold pStd es
  obtain ⟨k, wk⟩ := stdLen R
  cases k with
  | zero => dsimp only; split <;> rfl
  | succ k =>
    dsimp only
    cases h : (wk && !dh (R.drop (k + 1))) <;> rfl
theorem dh_cons (d : Nat) (r : List Nat) : dh (d :: r) = ([d] == [45] || LD.contains [d]) := by
  rw [ld_dig]
  show (d == 45 || isDig d) = _
  congr 1
  rw [Bool.eq_iff_iff]; simp
theorem sl_v {c : Nat} (h : isVow c = true) (r : List Nat) : stdLen (c :: r) = (1, false) := by
  unfold stdLen; dsimp only; rw [if_pos h]
theorem sl_s (d : Nat) (r : List Nat) : stdLen (115 :: d :: r) = if [97, 105, 111, 117].contains d then (2, false) else (0, false) := by
  unfold stdLen; dsimp only; rw [if_neg (by decide), if_pos rfl]
theorem sl_o {c : Nat} (h : ¬ isVow c = true) (h1 : c ≠ 115) (h2 : c ≠ 106) (h3 : c ≠ 110) (r : List Nat) : stdLen (c :: r) = (0, false) := by
  unfold stdLen; dsimp only; rw [if_neg h, if_neg h1, if_neg h2, if_neg h3]
theorem sl_j (d : Nat) (r : List Nat) : stdLen (106 :: d :: r) = if [97, 111].contains d then (2, false) else (1, true) := by
  unfold stdLen; dsimp only; rw [if_neg (by decide), if_neg (by decide), if_pos rfl]
theorem sl_n {d : Nat} (h : d ≠ 106) (r : List Nat) : stdLen (110 :: d :: r) = if [97, 101, 111].contains d then (2, false) else (1, true) := by
  unfold stdLen; dsimp only; rw [if_neg (by decide), if_neg (by decide), if_neg (by decide), if_pos rfl, if_neg h]
theorem sl_nj (d : Nat) (r : List Nat) : stdLen (110 :: 106 :: d :: r) = if [97, 111].contains d then (3, false) else (2, true) := by
  unfold stdLen; dsimp only; rw [if_neg (by decide), if_neg (by decide), if_neg (by decide), if_pos rfl, if_neg (by decide), if_pos rfl]
theorem ao_contains (d : Nat) : [[97], [111]].contains [d] = [97, 111].contains d := by
  rw [Bool.eq_iff_iff]; simp
theorem aeo_contains (d : Nat) : ([[97], [111]].contains [d] || [d] == [101]) = [97, 101, 111].contains d := by
  rw [Bool.eq_iff_iff]; simp
  lia
section
variable {R off B rest : List Nat}
theorem Sh.sz (s : Sh R off B rest) : szR (B ++ rest) off = es R := by
  have hR := s.eq
  obtain ⟨Z, hZ⟩ : ∃ Z, Z = B ++ rest := ⟨_, rfl⟩
  have hd : ∀ c, c ≠ 45 → B.head? ≠ some c → Z.head? ≠ some c := fun c hc hB => by rw [hZ]; exact s.zhead hc hB
  rw [← hZ] at hR ⊢
  rcases s.kind with ⟨rfl, h1, h2⟩ | ⟨rfl, h2⟩ | rfl | rfl
  · have g1 := hd 110 (by decide) h1
    have g2 := hd 106 (by decide) h2
    have hR : R = Z := hR
    rw [hR]
    clear hR hZ hd
    cases Z with
    | nil => decide
    | cons c r =>
      have n1 : c ≠ 110 := fun e => g1 (by rw [e]; rfl)
      have n2 : c ≠ 106 := fun e => g2 (by rw [e]; rfl)
      show (if LV.contains [c] = true then 1 else if asR (c :: r) = true then 2 else 0) = _
      rw [lv_vow]
      unfold es
      by_cases hv : isVow c = true
      · rw [if_pos hv, sl_v hv]; rfl
      · rw [if_neg hv]
        by_cases hs : c = 115
        · subst hs
          cases r with
          | nil => decide
          | cons d r =>
            rw [sl_s]
            show (if ((115 == 115) && [97, 105, 111, 117].contains d) = true then 2 else 0) = _
            cases [97, 105, 111, 117].contains d <;> rfl
        · rw [sl_o hv hs n2 n1]
          have : asR (c :: r) = false := by
            cases r with
            | nil => rfl
            | cons d r =>
              show (c == 115 && _) = false
              rw [beq_eq_false_iff_ne.mpr hs, Bool.false_and]
          rw [this]
          rfl
  · have g2 := hd 106 (by decide) h2
    have hR : R = 110 :: Z := hR
    rw [hR]
    clear hR hZ hd
    cases Z with
    | nil => decide
    | cons d r =>
      have n2 : d ≠ 106 := fun e => g2 (by rw [e]; rfl)
      show (if ([[97], [111]].contains [d] || ([d] == [101] && true)) = true then 2 else if ([d] == [45] || LD.contains [d]) = true then 1 else 0) = _
      rw [Bool.and_true, aeo_contains, ← dh_cons d r]
      unfold es
      rw [sl_n n2]
      cases [97, 101, 111].contains d
      · show _ = if (true && !dh (d :: r)) = true then 0 else 1
        cases dh (d :: r) <;> rfl
      · rfl
  · have hR : R = 106 :: Z := hR
    rw [hR]
    clear hR hZ hd
    cases Z with
    | nil => decide
    | cons d r =>
      show (if ([[97], [111]].contains [d] || ([d] == [101] && false)) = true then 2 else if ([d] == [45] || LD.contains [d]) = true then 1 else 0) = _
      rw [Bool.and_false, Bool.or_false, ao_contains, ← dh_cons d r]
      unfold es
      rw [sl_j]
      cases [97, 111].contains d
      · show _ = if (true && !dh (d :: r)) = true then 0 else 1
        cases dh (d :: r) <;> rfl
      · rfl
  · have hR : R = 110 :: 106 :: Z := hR
    rw [hR]
    clear hR hZ hd
    cases Z with
    | nil => decide
    | cons d r =>
      show (if ([[97], [111]].contains [d] || ([d] == [101] && false)) = true then 3 else if ([d] == [45] || LD.contains [d]) = true then 2 else 0) = _
      rw [Bool.and_false, Bool.or_false, ao_contains, ← dh_cons d r]
      unfold es
      rw [sl_nj]
      cases [97, 111].contains d
      · show _ = if (true && !dh (d :: r)) = true then 0 else 2
        cases dh (d :: r) <;> rfl
      · rfl
theorem long_eq (R : List Nat) (size : Nat) : c4 R.reverse (placeOf R.reverse R.reverse.length) size = (size == 0 || !pLong R) := by
  unfold c4 pLong
  congr 1
  have e1 : (R.reverse.filter fun c => LV.contains [c]).length = (R.filter isVow).length := by
    rw [List.filter_reverse, List.length_reverse]
    congr 2
    funext c
    exact lv_vow c
  have e2 : decide (((R.reverse.filter fun c => LD.contains [c]).map fun c => [c]) = []) = !R.any isDig := by
    rw [Bool.eq_iff_iff, decide_eq_true_iff, List.map_eq_nil_iff, List.filter_eq_nil_iff, Bool.not_eq_true', Bool.eq_false_iff]
    constructor
    · intro h e
      obtain ⟨c, hc, hd⟩ := List.any_eq_true.mp e
      exact h c (List.mem_reverse.mpr hc) (by rw [ld_dig]; exact hd)
    · intro h c hc hd
      exact h (List.any_eq_true.mpr ⟨c, List.mem_reverse.mp hc, by rw [← ld_dig]; exact hd⟩)
  have e3 : decide (placeOf R.reverse R.reverse.length < 2) = !hyIn R := by
    rw [place_part, List.reverse_reverse, List.length_reverse]
    unfold hyIn
    rw [Bool.not_not, Bool.eq_iff_iff, decide_eq_true_iff, List.isEmpty_iff, List.drop_eq_nil_iff]
    omega
  rw [e1, e2, e3, show decide ((R.filter isVow).length < 2) = !decide (2 ≤ (R.filter isVow).length) by rw [Bool.eq_iff_iff]; simp]
  cases decide (2 ≤ (R.filter isVow).length) <;> cases hyIn R <;> cases R.any isDig <;> rfl
theorem ujn_stays (s : Sh R off B rest) (h : inT T_a_4 B = true) : (inT T_a_5 (part R) || pMerged R) = false := by
  have hB : B = [117, 110, 117] ∨ B = [117, 105, 108, 97] := by
    have h : [[117, 105, 108, 97], [117, 110, 117]].contains B = true := h
    simpa [or_comm] using h
  rw [merged_eq, s.pt]
  rcases hB with rfl | rfl <;> rcases s.kind with ⟨rfl, _⟩ | ⟨rfl, _⟩ | rfl | rfl <;> decide +kernel
end
theorem selF (f y l z : Bool) (X R Y : List Nat) (hu : f = true → y = false) : (if f = true then X.reverse else if y = true then R.reverse else if (z || !l) = true then R.reverse else Y.reverse) =
    (if y = true then R else match if f = true then some X else none with | some r => r | none => if l = true then (if z = true then none else some Y).getD R else R).reverse := by
  cases f with
  | true => rw [hu rfl]; rfl
  | false => cases y with
    | true => rfl
    | false => cases z with
      | true => cases l <;> rfl
      | false => cases l <;> rfl
theorem sel9 (n a t h d f y l z : Bool) (X R Y : List Nat) (hu : f = true → y = false) :
    (if (n && (a || t && h)) = true then X.reverse else if (t && d || f) = true then X.reverse else if y = true then R.reverse else if (z || !l) = true then R.reverse else Y.reverse) =
    (match if (n && a) = true then some X else none with
      | some r => r
      | none => match if (t && (n && h || d)) = true then some X else none with
        | some r => r
        | none => if y = true then R else match if f = true then some X else none with | some r => r | none => if l = true then (if z = true then none else some Y).getD R else R).reverse := by
  have k := selF f y l z X R Y hu
  cases n with
  | true => cases a with
    | true => rfl
    | false => cases t with
      | true => cases h with
        | true => rfl
        | false => cases d with
          | true => rfl
          | false => exact k
      | false => exact k
  | false => cases t with
    | true => cases d with
      | true => rfl
      | false => exact k
    | false => exact k
theorem left_stem (R : List Nat) : left R.reverse (placeOf R.reverse R.reverse.length) = (stemR R).reverse := by
  obtain ⟨off, B, rest, s⟩ := sh_of R
  have hp : R.reverse.drop (placeOf R.reverse R.reverse.length) = (part R).reverse := by rw [drop_part, List.reverse_reverse]
  have hb : (part R).reverse.take ((part R).reverse.length - off.length) = B.reverse := by
    rw [s.pt, List.reverse_append, List.reverse_reverse, List.length_append, Nat.add_sub_cancel, List.take_left]
  have hl : R.reverse.take (R.reverse.length - off.length) = (B ++ rest).reverse := by
    have : R.reverse = (B ++ rest).reverse ++ off := by rw [s.eq, List.reverse_append, List.reverse_reverse]
    rw [this, List.length_append, Nat.add_sub_cancel, List.take_left]
  have e1 : c1 B.reverse off = (nn off && (inT T_a_2 B || (tabR B && B.head? == some 101))) := by
    unfold c1 nn
    rw [in2, table_rev, last_rev]
    congr 3
    cases B with
    | nil => rfl
    | cons c r =>
      show ([c] == [101]) = (some c == some 101)
      rw [Bool.eq_iff_iff]; simp
  have e2 : c2 B.reverse = ((tabR B && B.head?.any isAou) || inT T_a_4 B) := by
    unfold c2
    rw [in4, table_rev, last_rev]
    congr 2
    cases B with
    | nil => rfl
    | cons c r =>
      show [[97], [111], [117]].contains [c] = isAou c
      unfold isAou
      rw [Bool.eq_iff_iff]; simp
  have e3 : c3 (part R).reverse = (inT T_a_5 (part R) || pMerged R) := by
    unfold c3
    rw [in5, merged_eq]
  have hsz := size_le (B ++ rest).reverse off
  rw [size_rev, List.length_reverse] at hsz
  have hRl : R.length = off.length + (B ++ rest).length := by
    have := congrArg List.length s.eq
    rw [this, List.length_append, List.length_reverse]
  unfold left
  rw [hp, s.of, hb, hl, e1, e2, e3, size_rev, long_eq, take_rev (by lia), fin_rev]
  unfold stemR
  rw [s.pron, s.corr, s.ujn, pStd_es, s.sz]
  have hu := ujn_stays s
  exact sel9 _ _ _ _ _ _ _ _ _ _ _ _ hu
end A
end
noncomputable section
open PySem PySem.W PySem.Calls PyProof.Rows Builtin
open H (Sets fEnd KF kf_in QV looseV PW)
namespace A
theorem stem_un {w : List Nat} (h : marked [] w = false) : stemA w = if (part (hat w).reverse).any isF then hat w else (stemR (hat w).reverse).reverse := by
  obtain ⟨e1, e2⟩ := canon_hat w [] h
  unfold stemA
  rw [e1, e2, fold_part]
theorem stem_again {w : List Nat} (h : marked [] w = false) : stemA w = again w := by
  rw [stem_un h]
  unfold again
  rw [hatted_hat]
  have hf := foreign_eq (hat w)
  have hl := left_stem (hat w).reverse
  rw [List.reverse_reverse] at hl
  rw [hl]
  by_cases hc : ((((hat w).drop (placeOf (hat w) (hat w).length)).filter fun c => QL.contains [c]).map fun c => [c]) ≠ []
  · rw [if_pos hc, ← hf, decide_eq_true hc, if_pos rfl]
  · rw [if_neg hc, ← hf, decide_eq_false hc, if_neg (by decide)]
theorem marked_pre : ∀ (l s b : List Nat), marked b (l ++ s) = false → marked b l = false
  | [], _, _, _ => rfl
  | c :: l, s, b, h => by
    rw [List.cons_append, marked, Bool.or_eq_false_iff] at h
    rw [marked, h.1, marked_pre l s [c] h.2]
    rfl
theorem offc_drop (c : Nat) (R : List Nat) : ∃ k, offc c R = R.drop k := by
  cases R with
  | nil => exact ⟨0, rfl⟩
  | cons a r =>
    by_cases h : a = c
    · exact ⟨1, by rw [offc, if_pos h]; rfl⟩
    · exact ⟨0, by rw [offc, if_neg h]; rfl⟩
theorem corr_some {R b : List Nat} (h : pCorr R = some b) : ∃ c R3, b = c :: 105 :: R3 ∧ (c = 101 ∨ isAou c = true) ∧ (inT T_a_8 (part R3) || (part R3).isEmpty) = true ∧ (b = offc 110 R ∨ b = offc 106 (offc 110 R)) := by
  unfold pCorr corrHead at h
  by_cases h1 : (offc 110 R).head? = some 101
  · rw [if_pos h1] at h
    dsimp only at h
    cases hX : offc 110 R with
    | nil => rw [hX] at h1; cases h1
    | cons c r =>
      rw [hX] at h h1
      have hc : c = 101 := by simpa using h1
      cases r with
      | nil => cases h
      | cons d R3 =>
        by_cases hd : d = 105
        · subst hd
          dsimp only [List.tail_cons] at h
          rw [if_pos rfl] at h
          by_cases hq : (inT T_a_8 (part R3) || (part R3).isEmpty) = true
          · rw [if_pos hq] at h
            cases h
            exact ⟨c, R3, rfl, .inl hc, hq, .inl rfl⟩
          · rw [if_neg hq] at h; cases h
        · dsimp only [List.tail_cons] at h
          rw [if_neg hd] at h; cases h
  · rw [if_neg h1] at h
    cases hX : offc 106 (offc 110 R) with
    | nil => rw [hX] at h; cases h
    | cons c r =>
      rw [hX] at h
      dsimp only at h
      by_cases ha : isAou c = true
      · rw [if_pos ha] at h
        dsimp only at h
        cases r with
        | nil => cases h
        | cons d R3 =>
          by_cases hd : d = 105
          · subst hd
            dsimp only at h
            rw [if_pos rfl] at h
            by_cases hq : (inT T_a_8 (part R3) || (part R3).isEmpty) = true
            · rw [if_pos hq] at h
              cases h
              exact ⟨c, R3, rfl, .inr ha, hq, .inr rfl⟩
            · rw [if_neg hq] at h; cases h
          · dsimp only at h
            rw [if_neg hd] at h; cases h
      · rw [if_neg ha] at h; cases h
theorem off2_drop (R : List Nat) : ∃ k, offc 106 (offc 110 R) = R.drop k := by
  obtain ⟨k, h⟩ := offc_drop 110 R
  obtain ⟨j, h2⟩ := offc_drop 106 (offc 110 R)
  exact ⟨k + j, by rw [h2, h, List.drop_drop]⟩
theorem std_drop {R X : List Nat} (h : pStd R = some X) : ∃ k, X = R.drop k := by
  rw [pStd_es] at h
  split at h
  · cases h
  · cases h
    obtain ⟨j, h2⟩ := offc_drop 45 (R.drop (es R))
    exact ⟨es R + j, by rw [h2, List.drop_drop]⟩
theorem stemR_drop (R : List Nat) : ∃ k, stemR R = R.drop k := by
  unfold stemR
  cases h1 : pPron R with
  | some r =>
    unfold pPron at h1
    split at h1
    · cases h1; exact offc_drop 110 R
    · cases h1
  | none =>
    cases h2 : pCorr R with
    | some r =>
      obtain ⟨_, _, _, _, _, hb⟩ := corr_some h2
      rcases hb with hb | hb
      · obtain ⟨k, hk⟩ := offc_drop 110 R; exact ⟨k, by rw [← hk, ← hb]⟩
      · obtain ⟨k, hk⟩ := off2_drop R; exact ⟨k, by rw [← hk, ← hb]⟩
    | none =>
      dsimp only
      split
      · exact ⟨0, rfl⟩
      · cases h3 : pUjn R with
        | some r =>
          unfold pUjn at h3
          split at h3
          · cases h3; exact off2_drop R
          · cases h3
        | none =>
          dsimp only
          split
          · cases h4 : pStd R with
            | none => exact ⟨0, rfl⟩
            | some X => exact std_drop h4
          · exact ⟨0, rfl⟩
theorem stem_pre (u : List Nat) : ∃ s, u = (stemR u.reverse).reverse ++ s := by
  obtain ⟨k, hk⟩ := stemR_drop u.reverse
  refine ⟨(u.reverse.take k).reverse, ?_⟩
  rw [hk, ← List.reverse_append, List.take_append_drop, List.reverse_reverse]
theorem one_cases (a : Nat) : (one a = a ∧ a ≠ 225 ∧ a ≠ 233 ∧ a ≠ 237 ∧ a ≠ 243 ∧ a ≠ 250) ∨ one a = 97 ∨ one a = 101 ∨ one a = 105 ∨ one a = 111 ∨ one a = 117 := by
  unfold one
  by_cases h1 : a = 225
  · rw [if_pos h1]; exact .inr (.inl rfl)
  rw [if_neg h1]
  by_cases h2 : a = 233
  · rw [if_pos h2]; exact .inr (.inr (.inl rfl))
  rw [if_neg h2]
  by_cases h3 : a = 237
  · rw [if_pos h3]; exact .inr (.inr (.inr (.inl rfl)))
  rw [if_neg h3]
  by_cases h4 : a = 243
  · rw [if_pos h4]; exact .inr (.inr (.inr (.inr (.inl rfl))))
  rw [if_neg h4]
  by_cases h5 : a = 250
  · rw [if_pos h5]; exact .inr (.inr (.inr (.inr (.inr rfl))))
  rw [if_neg h5]
  exact .inl ⟨rfl, h1, h2, h3, h4, h5⟩
theorem acc_of_one (a : Nat) : accL.contains [one a] = false := by
  rcases one_cases a with ⟨e, h1, h2, h3, h4, h5⟩ | e | e | e | e | e
  · rw [e]
    simp [accL, h1, h2, h3, h4, h5]
  all_goals rw [e]; decide
theorem one_120 {a : Nat} (h : one a = 120) : a = 120 := by
  rcases one_cases a with ⟨e, _⟩ | e | e | e | e | e
  · rw [← e]; exact h
  all_goals rw [e] at h; cases h
theorem pre_one {a : Nat} (h : preL.contains [one a] = true) : (hatOf a).isSome = true := by
  rcases one_cases a with ⟨e, _⟩ | e | e | e | e | e
  · rw [e] at h
    unfold hatOf
    simp [preL] at h
    rcases h with rfl | rfl | rfl | rfl | rfl <;> rfl
  all_goals rw [e] at h; exact absurd h (by decide)
set_option tactic.hygienic true in
theorem hat_out {a : Nat} (h : (hatOf a).isSome = true) : accL.contains [(hatOf a).getD 0] = false ∧ ((hatOf a).getD 0 == 120) = false ∧ preL.contains [(hatOf a).getD 0] = false := by
  unfold hatOf at h ⊢
  split at h
  · rename_i e; rw [if_pos e]; decide
  rename_i e1; rw [if_neg e1]
  split at h
  · rename_i e; rw [if_pos e]; decide
  rename_i e2; rw [if_neg e2]
  split at h
  · rename_i e; rw [if_pos e]; decide
  rename_i e3; rw [if_neg e3]
  split at h
  · rename_i e; rw [if_pos e]; decide
  rename_i e4; rw [if_neg e4]
  split at h
  · rename_i e; rw [if_pos e]; decide
  rename_i e5; rw [if_neg e5]
  split at h
  · rename_i e; rw [if_pos e]; decide
  cases h
theorem marked_canon : ∀ (t b : List Nat), (preL.contains b = true → t.head? ≠ some 120) → marked b (canon t) = false
  | [], _, _ => rfl
  | [a], b, h => by
    show marked b [one a] = false
    rw [marked, acc_of_one a, Bool.false_or]
    have : (one a == 120 && preL.contains b) = false := by
      rw [Bool.and_eq_false_iff]
      by_cases e : one a = 120
      · right
        have := one_120 e
        subst this
        rw [Bool.eq_false_iff]
        exact fun q => h q rfl
      · exact .inl (beq_eq_false_iff_ne.mpr e)
    rw [this]; rfl
  | a :: c :: r, b, h => by
    rw [canon]
    by_cases hp : c = 120 ∧ (hatOf a).isSome = true
    · rw [if_pos hp]
      obtain ⟨h1, h2, h3⟩ := hat_out hp.2
      rw [marked, h1, h2, marked_canon r _ (fun q => by rw [h3] at q; cases q)]
      rfl
    · rw [if_neg hp, marked, acc_of_one a, Bool.false_or]
      have : (one a == 120 && preL.contains b) = false := by
        rw [Bool.and_eq_false_iff]
        by_cases e : one a = 120
        · right
          have := one_120 e
          subst this
          rw [Bool.eq_false_iff]
          exact fun q => h q rfl
        · exact .inl (beq_eq_false_iff_ne.mpr e)
      rw [this, marked_canon (c :: r) [one a] (fun q e => hp ⟨by simpa using e, pre_one q⟩)]
      rfl
theorem marked_stem (t : List Nat) : marked [] (stemA t) = false := by
  have h := marked_canon t [] (fun q => absurd q (by decide))
  unfold stemA
  split
  · exact h
  · obtain ⟨s, hs⟩ := stem_pre (canon t)
    rw [hs] at h
    exact marked_pre _ _ _ h
theorem stem_len (t : List Nat) : (stemA t).length ≤ t.length := by
  have h := canon_len t
  unfold stemA
  split
  · exact h
  · obtain ⟨s, hs⟩ := stem_pre (canon t)
    have := congrArg List.length hs
    rw [List.length_append] at this
    lia
theorem stem_ap {t : List Nat} (h : ∀ c ∈ t, c ≠ 39) : ∀ c ∈ stemA t, c ≠ 39 := by
  have h := canon_ap t h
  unfold stemA
  split
  · exact h
  · obtain ⟨s, hs⟩ := stem_pre (canon t)
    intro c hc
    exact h c (by rw [hs]; exact List.mem_append_left _ hc)
end A
end
noncomputable section
open PySem PySem.W PySem.Calls PyProof.Rows Builtin
open H (Sets fEnd KF kf_in QV looseV PW)
namespace A
noncomputable def vh (c : Nat) : Bool := LV.contains [c] || c == 45
noncomputable def mu (t : List Nat) : Nat := (t.filter vh).length + if t.any isDig then 1 else 0
theorem mu_sub {l t : List Nat} (h : l.Sublist t) : mu l ≤ mu t := by
  unfold mu
  have h1 := (h.filter vh).length_le
  have h2 : l.any isDig = true → t.any isDig = true := fun e => by
    obtain ⟨c, a, b⟩ := List.any_eq_true.mp e
    exact List.any_eq_true.mpr ⟨c, h.subset a, b⟩
  cases h3 : l.any isDig
  · simp only [Bool.false_eq_true, if_false]; lia
  · rw [if_pos rfl, if_pos (h2 h3)]; lia
theorem mu_rev (t : List Nat) : mu t.reverse = mu t := by
  unfold mu
  rw [List.filter_reverse, List.length_reverse, List.any_reverse]
theorem mu_vow {t : List Nat} {c : Nat} (h : c ∈ t) (hc : isVow c = true) : 1 ≤ mu t := by
  unfold mu
  have : 0 < (t.filter vh).length := List.length_pos_iff_exists_mem.mpr ⟨c, List.mem_filter.mpr ⟨h, by unfold vh; rw [lv_vow, hc]; rfl⟩⟩
  lia
theorem mu_dig {t : List Nat} {c : Nat} (h : c ∈ t) (hc : isDig c = true) : 1 ≤ mu t := by
  unfold mu
  rw [if_pos (List.any_eq_true.mpr ⟨c, h, hc⟩)]
  exact Nat.succ_pos _
theorem mu_drop {R X : List Nat} {c k : Nat} (h : c ∈ R.take k) (hc : vh c = true) (hX : X.Sublist (R.drop k)) : mu X < mu R := by
  have h1 := mu_sub hX
  have h2 : mu (R.drop k) < mu R := by
    have e : R = R.take k ++ R.drop k := (List.take_append_drop k R).symm
    have h3 : 0 < ((R.take k).filter vh).length := List.length_pos_iff_exists_mem.mpr ⟨c, List.mem_filter.mpr ⟨h, hc⟩⟩
    have h4 : (R.drop k).any isDig = true → R.any isDig = true := fun e => by
      obtain ⟨c, a, b⟩ := List.any_eq_true.mp e
      exact List.any_eq_true.mpr ⟨c, List.mem_of_mem_drop a, b⟩
    have h5 : (R.filter vh).length = ((R.take k).filter vh).length + ((R.drop k).filter vh).length := by
      conv => lhs; rw [e]
      rw [List.filter_append, List.length_append]
    unfold mu
    rw [h5]
    cases h6 : (R.drop k).any isDig
    · simp only [Bool.false_eq_true, if_false]; lia
    · rw [if_pos rfl, if_pos (h4 h6)]; lia
  exact Nat.lt_of_le_of_lt ‹_› ‹_›
theorem hat_mu : ∀ t, ((hat t).filter vh).length ≤ (t.filter vh).length ∧ (hat t = t ∨ ((hat t).filter vh).length < (t.filter vh).length) ∧ ((hat t).any isDig = t.any isDig)
  | [] => ⟨Nat.le_refl _, .inl rfl, rfl⟩
  | [a] => ⟨Nat.le_refl _, .inl rfl, rfl⟩
  | a :: b :: r => by
    by_cases h : a = 117 ∧ b = 120
    · obtain ⟨rfl, rfl⟩ := h
      obtain ⟨i1, _, i3⟩ := hat_mu r
      rw [hat_ux]
      have e1 : ((365 :: hat r).filter vh) = (hat r).filter vh := by rw [List.filter_cons_of_neg (by decide)]
      have e2 : ((117 :: 120 :: r).filter vh) = 117 :: r.filter vh := by rw [List.filter_cons_of_pos (by decide), List.filter_cons_of_neg (by decide)]
      rw [e1, e2, List.length_cons]
      refine ⟨by lia, .inr (by lia), ?_⟩
      rw [List.any_cons, List.any_cons, List.any_cons, i3]
      rfl
    · obtain ⟨i1, i2, i3⟩ := hat_mu (b :: r)
      rw [hat, if_neg h, List.any_cons, i3, ← List.any_cons]
      have e1 : ∀ l : List Nat, ((a :: l).filter vh).length = (if vh a = true then 1 else 0) + (l.filter vh).length := fun l => by
        by_cases hv : vh a = true
        · rw [List.filter_cons_of_pos hv, if_pos hv, List.length_cons]; lia
        · rw [List.filter_cons_of_neg hv, if_neg hv]; lia
      rw [e1, e1]
      refine ⟨by lia, ?_, rfl⟩
      rcases i2 with i2 | i2
      · exact .inl (by rw [i2])
      · exact .inr (by lia)
theorem mu_hat (t : List Nat) : mu (hat t) ≤ mu t ∧ (hat t = t ∨ mu (hat t) < mu t) := by
  obtain ⟨h1, h2, h3⟩ := hat_mu t
  unfold mu
  rw [h3]
  refine ⟨by lia, ?_⟩
  rcases h2 with h2 | h2
  · exact .inl h2
  · exact .inr (by lia)
theorem hat_pre : ∀ (l s : List Nat), hat (l ++ s) = l ++ s → hat l = l
  | [], _, _ => rfl
  | [a], _, _ => rfl
  | a :: b :: r, s, h => by
    have h : hat (a :: b :: (r ++ s)) = a :: b :: (r ++ s) := h
    by_cases q : a = 117 ∧ b = 120
    · obtain ⟨rfl, rfl⟩ := q
      rw [hat_ux] at h
      have := (List.cons.inj h).1
      cases this
    · rw [hat, if_neg q] at h
      rw [hat, if_neg q, hat_pre (b :: r) s (List.cons.inj h).2]
theorem stem_fix {Z : List Nat} (h1 : Z.head? ≠ some 110) (h2 : Z.head? ≠ some 106) (h : pPron Z ≠ none ∨ pCorr Z ≠ none ∨ pUjn Z ≠ none ∨ pStd Z = none) : stemR Z = Z := by
  have e1 : offc 110 Z = Z := offc_ne h1
  have e2 : offc 106 (offc 110 Z) = Z := by rw [e1, offc_ne h2]
  have p1 : pPron Z = none ∨ pPron Z = some Z := by
    unfold pPron
    rw [e1]
    split
    · exact .inr rfl
    · exact .inl rfl
  have p2 : pCorr Z = none ∨ pCorr Z = some Z := by
    cases h : pCorr Z with
    | none => exact .inl rfl
    | some b =>
      obtain ⟨_, _, _, _, _, hb⟩ := corr_some h
      rw [e1] at hb
      rw [offc_ne h2] at hb
      rcases hb with hb | hb <;> exact .inr (by rw [hb])
  have p3 : pUjn Z = none ∨ pUjn Z = some Z := by
    unfold pUjn
    rw [e2]
    split
    · exact .inr rfl
    · exact .inl rfl
  unfold stemR
  rcases p1 with p1 | p1
  · rw [p1]
    dsimp only
    rcases p2 with p2 | p2
    · rw [p2]
      dsimp only
      split
      · rfl
      · rcases p3 with p3 | p3
        · rw [p3]
          dsimp only
          rcases h with h | h | h | h
          · exact absurd p1 h
          · exact absurd p2 h
          · exact absurd p3 h
          · rw [h]; split <;> rfl
        · rw [p3]
    · rw [p2]
  · rw [p1]
theorem mem_vow : ∀ c ∈ [101, 97, 105, 111, 117], isVow c = true := by decide
theorem aou_vow {c : Nat} (h : isAou c = true) : isVow c = true := by
  unfold isAou at h
  have : c = 97 ∨ c = 111 ∨ c = 117 := by simpa using h
  rcases this with rfl | rfl | rfl <;> decide
set_option tactic.hygienic true in
theorem std_vow {R : List Nat} {k : Nat} (h : stdLen R = (k + 1, false)) : ∃ c ∈ R.take (k + 1), vh c = true := by
  have vv : ∀ c, isVow c = true → vh c = true := fun c hc => by unfold vh; rw [lv_vow, hc]; rfl
  cases R with
  | nil => cases h
  | cons c r =>
    by_cases hv : isVow c = true
    · rw [sl_v hv] at h
      exact ⟨c, by simp, vv c hv⟩
    · by_cases hs : c = 115
      · subst hs
        cases r with
        | nil => cases h
        | cons d r =>
          rw [sl_s] at h
          split at h
          · rename_i hd
            cases h
            have : d = 97 ∨ d = 105 ∨ d = 111 ∨ d = 117 := by simpa using hd
            refine ⟨d, by simp, vv d ?_⟩
            rcases this with rfl | rfl | rfl | rfl <;> decide
          · cases h
      · by_cases hj : c = 106
        · subst hj
          cases r with
          | nil => cases h
          | cons d r =>
            rw [sl_j] at h
            split at h
            · rename_i hd
              cases h
              have : d = 97 ∨ d = 111 := by simpa using hd
              refine ⟨d, by simp, vv d ?_⟩
              rcases this with rfl | rfl <;> decide
            · cases h
        · by_cases hn : c = 110
          · subst hn
            cases r with
            | nil => cases h
            | cons d r =>
              by_cases hd : d = 106
              · subst hd
                cases r with
                | nil => cases h
                | cons e r =>
                  rw [sl_nj] at h
                  split at h
                  · rename_i he
                    cases h
                    have : e = 97 ∨ e = 111 := by simpa using he
                    refine ⟨e, by simp, vv e ?_⟩
                    rcases this with rfl | rfl <;> decide
                  · cases h
              · rw [sl_n hd] at h
                split at h
                · rename_i he
                  cases h
                  have : d = 97 ∨ d = 101 ∨ d = 111 := by simpa using he
                  refine ⟨d, by simp, vv d ?_⟩
                  rcases this with rfl | rfl | rfl <;> decide
                · cases h
          · rw [sl_o hv hs hj hn] at h
            cases h
theorem pron_head {P : List Nat} (h : inT T_a_2 P = true) : ∃ r, P = 105 :: r := by
  have h0 : (T_a_2.all fun m => m.s.reverse.head? == some 105) = true := by decide +kernel
  unfold inT at h
  rw [List.contains_iff_mem, List.mem_map] at h
  obtain ⟨m, hm, e⟩ := h
  have := List.all_eq_true.mp h0 m hm
  rw [e, beq_iff_eq] at this
  cases P with
  | nil => cases this
  | cons a r => exact ⟨r, by rw [Option.some.inj this]⟩
theorem ujn_head {P : List Nat} (h : inT T_a_4 P = true) : ∃ r, P = 117 :: r := by
  have h0 : (T_a_4.all fun m => m.s.reverse.head? == some 117) = true := by decide +kernel
  unfold inT at h
  rw [List.contains_iff_mem, List.mem_map] at h
  obtain ⟨m, hm, e⟩ := h
  have := List.all_eq_true.mp h0 m hm
  rw [e, beq_iff_eq] at this
  cases P with
  | nil => cases this
  | cons a r => exact ⟨r, by rw [Option.some.inj this]⟩
theorem part_head {X r : List Nat} {c : Nat} (h : part X = c :: r) : ∃ r', X = c :: r' := by
  obtain ⟨s, hs⟩ := part_pre X
  rw [h] at hs
  exact ⟨r ++ s, hs⟩
set_option tactic.hygienic true in
theorem round (R : List Nat) : stemR R = R ∨ mu (stemR R) < mu R ∨ (stemR (stemR R) = stemR R ∧ 1 ≤ mu R) := by
  have key : ∀ Z, stemR R = Z → (∃ k, Z = R.drop k) → (∃ c r, Z = c :: r ∧ c ≠ 110 ∧ c ≠ 106 ∧ (isVow c = true ∨ isDig c = true)) → (pPron Z ≠ none ∨ pCorr Z ≠ none ∨ pUjn Z ≠ none ∨ pStd Z = none) → stemR (stemR R) = stemR R ∧ 1 ≤ mu R := fun Z e ⟨k, hk⟩ ⟨c, r, hc, n1, n2, hv⟩ h => by
    have hm : c ∈ R := by
      have : c ∈ R.drop k := by rw [← hk, hc]; exact .head _
      exact List.mem_of_mem_drop this
    rw [e, stem_fix (by rw [hc]; simpa using n1) (by rw [hc]; simpa using n2) h]
    exact ⟨rfl, hv.elim (mu_vow hm) (mu_dig hm)⟩
  have S : stemR R = match pPron R with
    | some r => r
    | none => match pCorr R with
      | some r => r
      | none => if inT T_a_5 (part R) || pMerged R then R else match pUjn R with
        | some r => r
        | none => if pLong R then (pStd R).getD R else R := rfl
  cases h1 : pPron R with
  | some r =>
    rw [h1] at S
    dsimp only at S
    right; right
    unfold pPron at h1
    split at h1
    · rename_i hp
      cases h1
      obtain ⟨q, hq⟩ := pron_head hp
      obtain ⟨q', hq'⟩ := part_head hq
      have e1 : offc 110 (offc 110 R) = offc 110 R := offc_ne (by rw [hq']; simp)
      refine key _ S (offc_drop 110 R) ⟨105, q', hq', by decide, by decide, .inl (by decide)⟩ (.inl ?_)
      unfold pPron
      rw [e1, hp]
      simp
    · cases h1
  | none =>
    rw [h1] at S
    dsimp only at S
    cases h2 : pCorr R with
    | some b =>
      rw [h2] at S
      dsimp only at S
      right; right
      obtain ⟨c, R3, hb, hc, hq, hb2⟩ := corr_some h2
      have hcv : isVow c = true := by
        rcases hc with rfl | hc
        · decide
        · exact aou_vow hc
      have n1 : c ≠ 110 := fun e => by rw [e] at hcv; exact absurd hcv (by decide)
      have n2 : c ≠ 106 := fun e => by rw [e] at hcv; exact absurd hcv (by decide)
      refine key b S ?_ ⟨c, 105 :: R3, hb, n1, n2, .inl hcv⟩ (.inr (.inl ?_))
      · rcases hb2 with h | h
        · obtain ⟨k, hk⟩ := offc_drop 110 R; exact ⟨k, by rw [h, hk]⟩
        · obtain ⟨k, hk⟩ := off2_drop R; exact ⟨k, by rw [h, hk]⟩
      · have e1 : offc 110 b = b := offc_ne (by rw [hb]; simpa using n1)
        have e2 : offc 106 b = b := offc_ne (by rw [hb]; simpa using n2)
        have : corrHead b = some (105 :: R3, b) := by
          unfold corrHead
          rw [e1, e2]
          by_cases h : b.head? = some 101
          · rw [if_pos h, hb]; rfl
          · rw [if_neg h, hb]
            have hc : isAou c = true := by
              rcases hc with rfl | hc
              · exact absurd (by rw [hb]; rfl) h
              · exact hc
            show (if isAou c = true then some (105 :: R3, c :: 105 :: R3) else none) = _
            rw [if_pos hc]
        unfold pCorr
        rw [this]
        dsimp only
        rw [if_pos rfl, hq]
        simp
    | none =>
      rw [h2] at S
      dsimp only at S
      by_cases hst : (inT T_a_5 (part R) || pMerged R) = true
      · rw [if_pos hst] at S
        exact .inl S
      · rw [if_neg hst] at S
        cases h3 : pUjn R with
        | some r =>
          rw [h3] at S
          dsimp only at S
          right; right
          unfold pUjn at h3
          split at h3
          · rename_i hp
            cases h3
            obtain ⟨q, hq⟩ := ujn_head hp
            obtain ⟨q', hq'⟩ := part_head hq
            refine key _ S (off2_drop R) ⟨117, q', hq', by decide, by decide, .inl (by decide)⟩ (.inr (.inr (.inl ?_)))
            have e1 : offc 110 (offc 106 (offc 110 R)) = offc 106 (offc 110 R) := offc_ne (by rw [hq']; simp)
            have e2 : offc 106 (offc 106 (offc 110 R)) = offc 106 (offc 110 R) := offc_ne (by rw [hq']; simp)
            unfold pUjn
            rw [e1, e2, hp]
            simp
          · cases h3
        | none =>
          rw [h3] at S
          dsimp only at S
          by_cases hl : pLong R = true
          · rw [if_pos hl] at S
            cases h4 : pStd R with
            | none => rw [h4] at S; exact .inl S
            | some X =>
              rw [h4] at S
              have S : stemR R = X := S
              right
              rw [S]
              unfold pStd at h4
              cases hs : stdLen R with
              | mk k wk =>
                rw [hs] at h4
                cases k with
                | zero => cases h4
                | succ k =>
                  dsimp only at h4
                  split at h4
                  · cases h4
                  · rename_i hw
                    cases h4
                    cases wk with
                    | false =>
                      left
                      obtain ⟨c, hc, hv⟩ := std_vow hs
                      refine mu_drop hc hv ?_
                      obtain ⟨j, hj⟩ := offc_drop 45 (R.drop (k + 1))
                      rw [hj]
                      exact List.drop_sublist _ _
                    | true =>
                      have hd : dh (R.drop (k + 1)) = true := by
                        cases q : dh (R.drop (k + 1)) with
                        | true => rfl
                        | false => rw [q] at hw; exact absurd rfl hw
                      cases hr : R.drop (k + 1) with
                      | nil => rw [hr] at hd; cases hd
                      | cons d r' =>
                        rw [hr] at hd
                        by_cases h45 : d = 45
                        · left
                          subst h45
                          rw [offc, if_pos rfl]
                          have e : R.drop (k + 2) = r' := by
                            rw [show k + 2 = (k + 1) + 1 from rfl, ← List.drop_drop, hr]; rfl
                          refine mu_drop (k := k + 2) (c := 45) ?_ (by decide) (by rw [e]; exact List.Sublist.refl _)
                          have : R.take (k + 2) = R.take (k + 1) ++ [45] := by
                            rw [show k + 2 = (k + 1) + 1 from rfl, List.take_add_one]
                            congr 1
                            have := congrArg List.head? hr
                            rw [List.head?_drop] at this
                            rw [this]; rfl
                          rw [this]
                          exact List.mem_append_right _ (.head _)
                        · right
                          have hdg : isDig d = true := by
                            have hd : (d == 45 || isDig d) = true := hd
                            rwa [beq_eq_false_iff_ne.mpr h45, Bool.false_or] at hd
                          have e : offc 45 (d :: r') = d :: r' := by rw [offc, if_neg h45]
                          have nd : ∀ x, isDig x = false → d ≠ x := fun x hx q => by rw [q, hx] at hdg; cases hdg
                          have nv : ¬ isVow d = true := fun q => by
                            have : d = 97 ∨ d = 101 ∨ d = 105 ∨ d = 111 ∨ d = 117 := by unfold isVow at q; simpa using q
                            rcases this with rfl | rfl | rfl | rfl | rfl <;> exact absurd hdg (by decide)
                          rw [hr, e] at S
                          have K := key (d :: r') S ⟨k + 1, hr.symm⟩ ⟨d, r', rfl, nd 110 (by decide), nd 106 (by decide), .inr hdg⟩ (.inr (.inr (.inr (by
                            unfold pStd
                            rw [sl_o nv (nd 115 (by decide)) (nd 106 (by decide)) (nd 110 (by decide))]))))
                          rw [S] at K
                          rw [e]
                          exact K
          · rw [if_neg hl] at S
            exact .inl S
noncomputable def Rest : Nat → List Nat → Prop
  | 0, t => stemA t = t
  | n + 1, t => stemA t = t ∨ Rest n (stemA t)
theorem rest_fix {t : List Nat} (h : stemA t = t) : ∀ n, Rest n t
  | 0 => h
  | _ + 1 => .inl h
theorem rest_mono : ∀ {n k : Nat} {t : List Nat}, n ≤ k → Rest n t → Rest k t
  | 0, k, _, _, h => rest_fix h k
  | n + 1, 0, _, hk, _ => absurd hk (by lia)
  | n + 1, k + 1, _, hk, h => h.elim .inl fun h => .inr (rest_mono (Nat.le_of_succ_le_succ hk) h)
theorem stem_round {t : List Nat} (h : marked [] t = false) : stemA t = t ∨ mu (stemA t) < mu t ∨ (stemA (stemA t) = stemA t ∧ 1 ≤ mu t) := by
  obtain ⟨m1, m2⟩ := mu_hat t
  have e := stem_un h
  rcases m2 with m2 | m2
  · rw [m2] at e
    by_cases hf : (part t.reverse).any isF = true
    · rw [if_pos hf] at e
      exact .inl e
    · rw [if_neg hf] at e
      rcases round t.reverse with r | r | ⟨r1, r2⟩
      · left
        rw [e, r, List.reverse_reverse]
      · right; left
        rw [e, mu_rev]
        rwa [mu_rev] at r
      · right; right
        rw [mu_rev] at r2
        refine ⟨?_, r2⟩
        obtain ⟨s, hs⟩ := stem_pre t
        have hu : marked [] (stemA t) = false := marked_stem t
        have hh : hat (stemA t) = stemA t := by
          rw [e]
          refine hat_pre _ s ?_
          rw [← hs, m2]
        have e2 := stem_un hu
        rw [hh] at e2
        rw [e2]
        split
        · rfl
        · rw [e, List.reverse_reverse, r1]
  · right; left
    refine Nat.lt_of_le_of_lt ?_ m2
    rw [e]
    split
    · exact Nat.le_refl _
    · obtain ⟨s, hs⟩ := stem_pre (hat t)
      refine mu_sub ?_
      conv => rhs; rw [hs]
      exact List.sublist_append_left _ _
theorem rest_all : ∀ (n : Nat) (t : List Nat), marked [] t = false → mu t ≤ n → Rest (mu t) t
  | n, t, h, hn => by
    rcases stem_round h with r | r | ⟨r1, r2⟩
    · exact rest_fix r _
    · cases n with
      | zero => lia
      | succ n =>
        have ih := rest_all n (stemA t) (marked_stem t) (by lia)
        obtain ⟨k, hk⟩ : ∃ k, mu t = k + 1 := ⟨mu t - 1, by lia⟩
        rw [hk]
        exact .inr (rest_mono (by lia) ih)
    · obtain ⟨k, hk⟩ : ∃ k, mu t = k + 1 := ⟨mu t - 1, by lia⟩
      rw [hk]
      exact .inr (rest_fix r1 k)
theorem rest (t : List Nat) (h : marked [] t = false) : Rest (mu t) t := rest_all _ t h (Nat.le_refl _)
end A
end
noncomputable section
open PySem PySem.W PySem.Calls PyProof.Rows Builtin
open H (Sets fEnd KF kf_in QV looseV PW)
theorem EV.make {W : Wx} {fn : Fn} {loc : List (Str × AV)} {np p : Pos} {Q : AV → St → Prop} (hk : fn.sc.kind = .function) (hx : fn.sc.names.lookup ("EsperantoStemmer" : Str) = some .globalImplicit) (hrm : 2 < fn.rm)
    (h : ∀ x dx, Q (.val (.ref x)) (Sm x dx (fresh []) loc)) : EV W fn (.Call (.Name "EsperantoStemmer" np) [] [] p) ⟨loc, none, [], none⟩ Q := by
  refine ⟨fun g A S P E hg I k => ?_⟩
  refine wpAny_Call_ofName ((EV.glob (W := W) (σ := ⟨loc, none, [], none⟩) (Q := fun a σ' => a = .val (.ref 674) ∧ σ' = ⟨loc, none, [], none⟩) g_esp ⟨rfl, rfl⟩ hk hx (by decide)).run g A S _ E hg I fun u S1 a σ1 h1 I1 r1 s1 => ?_)
  obtain ⟨rfl, rfl⟩ := h1
  cases r1
  refine callWith_K0 I1.k (by kernel_rfl) (wpAny_call ?_)
  obtain ⟨hp, gn, d, t, os⟩ := S1
  have hi : findIn W.K (.ref 674) "__init__" = some (some (.ref 35)) := by kernel_rfl
  have hf : typeIn W.K (.ref 35) = some (.type "function") := by kernel_rfl
  refine make_core (makes_of I1.k (by kernel_rfl)) (looks_findIn I1.k hi) (fun self => bind_fn I1.k self hf) (.inl rfl) ?_
  have up : ∀ b o, hp.get? b = some o → ((hp.push emptyDict).push (instObj 674 hp.objs.size)).get? b = some o := fun b o e => Heap.get?_push_of_some _ (Heap.get?_push_of_some _ e)
  have I2 : In W g A ⟨loc, none, [], none⟩ ⟨(hp.push emptyDict).push (instObj 674 hp.objs.size), gn, d, t, os⟩ := I1.grows up rfl rfl
  have hxo : ((hp.push emptyDict).push (instObj 674 hp.objs.size)).get? (hp.objs.size + 1) = some (instObj 674 hp.objs.size) := by
    have := Heap.get?_push_size (hp.push emptyDict) (o := instObj 674 hp.objs.size) rfl
    rwa [Heap.size_push] at this
  have hdo : ((hp.push emptyDict).push (instObj 674 hp.objs.size)).get? hp.objs.size = some emptyDict := Heap.get?_push_of_some _ (Heap.get?_push_size _ rfl)
  have I3 : In W g A ⟨loc, some (hp.objs.size + 1, hp.objs.size), [], none⟩ ⟨(hp.push emptyDict).push (instObj 674 hp.objs.size), gn, d, t, os⟩ := by
    obtain ⟨m, hm, hlo, hml⟩ := I2.lo
    refine { I2 with lo := ⟨m, hm, hlo, trivial⟩, ob := ?_ }
    refine ⟨⟨_, hxo⟩, ⟨[], _, _, hdo, trivial⟩, I1.newB, fun o e => ?_, fun q => ?_⟩
    · cases ho : o.data with
      | fields v => exact ⟨v, rfl⟩
      | _ =>
        obtain ⟨sl, e2⟩ := I1.up _ o e (fun v q => by rw [ho] at q; cases q)
        exact absurd (Heap.lt_size e2) (Nat.lt_irrefl _)
    · obtain ⟨m0, ⟨oL, es, ep, l1, _⟩, _⟩ := I1.lo
      have := Heap.lt_size l1
      rw [← q] at this
      exact absurd this (Nat.lt_irrefl _)
  have hrm' : 2 < g.fn.rm := by rw [hg]; exact hrm
  let g' : Cx := ⟨{ g.fn with rm := g.fn.rm - 1 }, g.B, g.N, g.L, g.outer⟩
  have hA : (A.under (.builtin "type.__call__" ⟨[.ref 674], []⟩)).depth ≤ A.depth + 10 ∧ (A.under (.builtin "type.__call__" ⟨[.ref 674], []⟩)).units ≤ A.units + 50 := ⟨by
    show A.depth + (Code.builtin "type.__call__" ⟨[.ref 674], []⟩).weight ≤ _
    have : (Code.builtin "type.__call__" ⟨[.ref 674], []⟩).weight ≤ 10 := by decide +kernel
    lia, by
    show A.units + (Code.builtin "type.__call__" ⟨[.ref 674], []⟩).cUnits ≤ _
    have : (Code.builtin "type.__call__" ⟨[.ref 674], []⟩).cUnits ≤ 50 := by decide +kernel
    lia⟩
  have I4 : In W g' (A.under (.builtin "type.__call__" ⟨[.ref 674], []⟩)) ⟨loc, some (hp.objs.size + 1, hp.objs.size), [], none⟩ ⟨(hp.push emptyDict).push (instObj 674 hp.objs.size), gn, d, t, os⟩ := by
    refine ⟨I3.fr, I3.hd, ?_, ?_, I3.sk, I3.bs, I3.st, I3.up, I3.nl, I3.ff, I3.fd, I3.lo, I3.ob, I3.gens, I3.os⟩
    · have := I3.dp
      show _ + 10 * (g.fn.rm - 1) ≤ 900
      have := hA.1
      lia
    · have := I3.un
      show _ + 50 * (g.fn.rm - 1) ≤ 5000
      have := hA.2
      lia
  refine codeAny_mono ((init (W := W) (x := hp.objs.size + 1) (dx := hp.objs.size) (Q := fun a fl => a = .none ∧ fl = FL (fresh [])) ⟨rfl, rfl⟩).run g' _ ⟨loc, some (hp.objs.size + 1, hp.objs.size), [], none⟩ _ [.ref (hp.objs.size + 1)] (fun v s' => v = .none ∧ P (.ref (hp.objs.size + 1)) s') E (by show 1 < g.fn.rm - 1; omega) I4 rfl rfl ⟨rfl, trivial⟩ (fun u S' a fl' hq I' r st => ?_)) (fun r s' hr => ?_)
  · obtain ⟨rfl, rfl⟩ := hq
    have I5 : In W g A (Sm (hp.objs.size + 1) hp.objs.size (fresh []) loc) S' := ⟨I3.fr, I3.hd, I3.dp, I3.un, I3.sk, I3.bs, I'.st, I'.up, I'.nl, I'.ff, I'.fd, I'.lo, I'.ob, I'.gens, I'.os⟩
    exact ⟨r, k _ _ _ _ (h _ _) I5 rfl (s1.trans ((Step.of_keeps up).trans st))⟩
  · cases r with
    | error e => exact hr
    | ok f =>
      cases f with
      | ret v => exact hr
      | _ => exact hr
theorem EX.forget {W : Wx} {fn : Fn} {ss : List Stmt} {σ : St} {Q : AF → St → Prop} (h : EX W fn ss σ fun r σ' => Q r { σ' with ob := none, fl := [] }) : EX W fn ss σ Q := by
  refine ⟨fun g A S P E hg I k ke => h.run g A S P E hg I (fun f S' fl σ' hq I' hf => k f S' fl _ hq ?_ hf) fun e S' kk σ' hq I' hx => ke e S' kk _ hq ?_ hx⟩
  · obtain ⟨m, hm, hlo, hml⟩ := I'.lo
    exact { I' with lo := ⟨m, hm, hlo, hml⟩, ob := trivial }
  · obtain ⟨m, hm, hlo, hml⟩ := I'.lo
    exact { I' with lo := ⟨m, hm, hlo, hml⟩, ob := trivial }
theorem flat_FL (F : Fd) : flatL (FL F) = true := rfl
end
noncomputable section
open PySem PySem.W PySem.Calls PyProof.Rows Builtin
open H (Sets fEnd KF kf_in QV looseV PW)
section
variable {W : Wx}
theorem g_lword : nsIn W.K mainGlobals "_law_word" = some (some (.ref 777)) := by kernel_rfl
theorem g_lmarked : nsIn W.K mainGlobals "_law_marked" = some (some (.ref 748)) := by kernel_rfl
theorem g_lagain : nsIn W.K mainGlobals "_law_again" = some (some (.ref 772)) := by kernel_rfl
end
theorem mu_le {t : List Nat} (h : t.length ≤ 40) : A.mu t ≤ 41 := by
  unfold A.mu
  have := List.length_filter_le A.vh t
  split <;> lia
set_option maxHeartbeats 4000000 in
theorem law_body {W : Wx} {ns : List Int} {Q : AV → List (Str × AV) → Prop} (hz : ns.length ≤ 63) (h : Q (.bool true) []) : EX W F_law (sBody (H.st1 25)) ⟨[("script", .ints ns)], none, [], none⟩ fun r σ' => ∃ a, (r = .ret a ∨ (r = .next ∧ a = .none)) ∧ σ'.ob = none ∧ Q a σ'.fl := by
  refine EX.forget ?_
  dsimp only
  have yes : ∀ (σ' : St), ∃ a, (AF.ret (.bool true) = .ret a ∨ (AF.ret (.bool true) = .next ∧ a = .none)) ∧ (none : Option (Addr × Addr)) = none ∧ Q a [] := fun _ => ⟨_, .inl rfl, rfl, h⟩
  refine EX.cons (asg (by kernel_rfl) (by intro env; rfl) (EV.fcall (EV.glob g_lword ⟨rfl, AR.cons (nm (by kernel_rfl) (by kernel_rfl) (by l_ints) (AR.nil (c_word hz fun t gt => ⟨_, rfl, ?_⟩))) (by intro env; rfl)⟩ (by kernel_rfl) (by kernel_rfl) (by decide)) (by kernel_rfl) (by decide) (by intro env; rfl) (by intro env; rfl)))
  refine EX.cons (EX1.assign (EV.make (by kernel_rfl) (by kernel_rfl) (by decide) fun x dx => ⟨(fun _ q => nomatch q), ?_⟩) (by kernel_rfl) (by intro env; rfl))
  show EX W F_law _ (Sm x dx (fresh []) [("stemmer", .val (.ref x)), ("now", .str t), ("script", .ints ns)]) _
  let Pq1 : St → Prop := fun σ' => ∃ (F' : Fd) (l : List (Str × AV)) (t' : List Nat), σ' = Sm x dx F' l ∧ l.lookup ("stemmer" : Str) = some (.val (.ref x)) ∧ l.lookup ("now" : Str) = some (.str t') ∧ A.marked [] t' = false ∧ gd 40 t'
  refine EX.cons (EX1.cut2 Pq1 ?_ ?_)
  · refine EX1.if_ (tplain (by intro env; rfl) (EV.fcall (EV.glob g_lmarked ⟨rfl, AR.cons (nm (by kernel_rfl) (by kernel_rfl) (by l_ints) (AR.nil (c_marked ⟨_, rfl, ?_⟩))) (by intro env; rfl)⟩ (by kernel_rfl) (by kernel_rfl) (by decide)) (by kernel_rfl) (by decide) (by intro env; rfl) (by intro env; rfl)))
    have hlen : t.length ≤ 500 := by have := gt.2; lia
    have hap := gt.1
    cases hm : A.marked [] t
    · refine ifN (by decide) ?_
      exact EX.nil ⟨_, _, t, rfl, by l_ints, by l_ints, hm, gt⟩
    · refine ifP rfl ?_
      refine EX.cons (EX1.assign (EV.meth (f := 189) (rm := 5) (nm (by kernel_rfl) (by kernel_rfl) (by l_ints) ⟨x, dx, rfl, rfl, rfl, AR.cons (nm (by kernel_rfl) (by kernel_rfl) (by l_ints) (AR.nil (stemWord hlen hap fun F2 => ⟨(fun _ q => nomatch q), ?_⟩))) (by intro env; rfl)⟩) (by kernel_rfl) (by kernel_rfl) (by kernel_rfl) (by decide) (plS (n := "stemmer")) (by intro env; with_unfolding_all rfl) (by intro env; rfl)) (by kernel_rfl) (by intro env; rfl))
      show EX W F_law _ (Sm x dx F2 (("now", .str (A.stemA t)) :: [("stemmer", .val (.ref x)), ("now", .str t), ("script", .ints ns)])) _
      refine EX.cons (EX1.if_ (tplain (by intro env; rfl) (EV.fcall (EV.glob g_lmarked ⟨rfl, AR.cons (nm (by kernel_rfl) (by kernel_rfl) (by l_ints) (AR.nil (c_marked ⟨_, rfl, ?_⟩))) (by intro env; rfl)⟩ (by kernel_rfl) (by kernel_rfl) (by decide)) (by kernel_rfl) (by decide) (by intro env; rfl) (by intro env; rfl))))
      rw [A.marked_stem]; refine ifN (by decide) ?_
      exact EX.nil (EX.nil ⟨_, _, A.stemA t, rfl, by l_ints, by l_ints, A.marked_stem t, A.stem_ap hap, Nat.le_trans (A.stem_len t) gt.2⟩)
  clear gt
  rintro σ' ⟨F1, l, t, rfl, l1, l2, hm, gt⟩
  try dsimp only
  have htz : t.length ≤ 40 := gt.2
  refine EX.cons (asg (by kernel_rfl) (by intro env; rfl) (lenL (by kernel_rfl) (by kernel_rfl) (by intro env; rfl) (EV.compf (l := t) (CT.or (CT.fnl (by kernel_rfl) (by kernel_rfl) (by decide) (fun g => by rfl) (by decide) g_lvow (by kernel_rfl) (fun hK hT hd k => law_vowels hK hT hd k)) (CT.eq (ch := 45) (by kernel_rfl) (by kernel_rfl) (by decide) rfl)) (by kernel_rfl) (by kernel_rfl) (by kernel_rfl) (by kernel_rfl) (by decide) (by lia) (by decide) (by intro env y; rfl) (nm (by kernel_rfl) (by kernel_rfl) (by l_ints) ⟨rfl, _, rfl, ?_, ?_⟩))))
  · rw [List.length_map]
    have := List.length_filter_le (fun c => LV.contains [c] || c == 45) t
    lia
  refine ⟨_, rfl, ?_⟩
  have hvh : (((t.filter fun c => LV.contains [c] || c == 45).map fun c => [c]).length : Nat) = (t.filter A.vh).length := by rw [List.length_map]; rfl
  rw [hvh]
  let Pq2 : St → Prop := fun σ' => ∃ (l : List (Str × AV)), σ' = Sm x dx F1 l ∧ l.lookup ("stemmer" : Str) = some (.val (.ref x)) ∧ l.lookup ("now" : Str) = some (.str t) ∧ l.lookup ("rounds" : Str) = some (.int (A.mu t))
  refine EX.cons (EX1.cut2 Pq2 ?_ ?_)
  · refine EX1.if_ (TR.neNil (EV.compf (l := t) (CT.fnl (by kernel_rfl) (by kernel_rfl) (by decide) (fun g => by rfl) (by decide) g_ldig (by kernel_rfl) (fun hK hT hd k => law_digits hK hT hd k)) (by kernel_rfl) (by kernel_rfl) (by kernel_rfl) (by kernel_rfl) (by decide) (by omega) (by decide) (by intro env y; rfl) (nm (by kernel_rfl) (by kernel_rfl) (by l_ints) ⟨rfl, _, rfl, ?_⟩)))
    have hd : decide (((t.filter fun c => LD.contains [c]).map fun c => [c]) ≠ []) = t.any isDig := by
      rw [Bool.eq_iff_iff, decide_eq_true_iff, ne_eq, List.map_eq_nil_iff, List.any_eq_true]
      constructor
      · intro q
        obtain ⟨c, hc⟩ := List.exists_mem_of_ne_nil _ q
        obtain ⟨a, b⟩ := List.mem_filter.mp hc
        exact ⟨c, a, by rw [← A.ld_dig]; exact b⟩
      · rintro ⟨c, a, b⟩ q
        have : c ∈ t.filter fun c => LD.contains [c] := List.mem_filter.mpr ⟨a, by rw [A.ld_dig]; exact b⟩
        rw [q] at this
        cases this
    rw [hd]
    have hmu : A.mu t = (t.filter A.vh).length + if t.any isDig then 1 else 0 := rfl
    cases hq : t.any isDig
    · rw [hq] at hmu
      refine ifN (by decide) ?_
      refine EX.nil ⟨_, rfl, by l_ints, by l_ints, ?_⟩
      rw [hmu]
      exact lk_here
    · rw [hq] at hmu
      refine ifP rfl ?_
      refine EX.cons (aug (by kernel_rfl) (by l_ints) (EV.cint ⟨_, _, rfl, rfl, EX.nil ⟨_, rfl, by l_ints, by l_ints, ?_⟩⟩))
      rw [hmu]
      exact lk_here
  clear l1 l2 hvh
  rintro σ' ⟨l, rfl, l1, l2, l3⟩
  try dsimp only
  have hml := mu_le htz
  let Pq3 : St → Prop := fun σ' => ∃ (F' : Fd) (l : List (Str × AV)) (t' : List Nat), σ' = Sm x dx F' l ∧ l.lookup ("stemmer" : Str) = some (.val (.ref x)) ∧ l.lookup ("now" : Str) = some (.str t') ∧ gd 40 t' ∧ A.stemA t' = t'
  refine EX.cons (EX1.cut2 Pq3 ?_ ?_)
  · refine EX1.for_ (n := A.mu t) (vals := fun i => .int i) (fun i σ => ∃ (F' : Fd) (l : List (Str × AV)) (t' : List Nat), σ = Sm x dx F' l ∧ l.lookup ("stemmer" : Str) = some (.val (.ref x)) ∧ l.lookup ("now" : Str) = some (.str t') ∧ A.marked [] t' = false ∧ gd 40 t' ∧ A.Rest (A.mu t - i) t')
      (IT.range 0 (A.mu t) 1 (AR.cons (nm (by kernel_rfl) (by kernel_rfl) (by l_ints) (AR.nil ⟨.inr (.inr ⟨rfl, rfl, rfl⟩), _, _, t, rfl, by l_ints, by l_ints, hm, gt, A.rest t hm⟩)) (by intro env; rfl))
        (small_up (by lia) (by lia) (by lia) (by lia)) (.inl rfl) (by rw [size_up]; split <;> lia) (fun i hi => by congr 1; lia) (by kernel_rfl) (by kernel_rfl) (by intro env; rfl) (by intro env; rfl)) ?_ ?_
    · rintro i σ hi ⟨F', l, t', rfl, k1, k2, hm', gt', hr⟩
      refine ⟨fun _ q => (nomatch q), ?_⟩
      have hlen : t'.length ≤ 500 := by have := gt'.2; lia
      have hap := gt'.1
      have hag := A.stem_again hm'
      show EX W F_law _ (Sm x dx F' (("k", .int i) :: l)) _
      refine EX.cons (asg (by kernel_rfl) (by intro env; rfl) (EV.fcall (EV.glob g_lagain ⟨rfl, AR.cons (nm (by kernel_rfl) (by kernel_rfl) (by l_ints) (AR.nil (c_again hlen (flat_FL _) ⟨_, rfl, ?_⟩))) (by intro env; rfl)⟩ (by kernel_rfl) (by kernel_rfl) (by decide)) (by kernel_rfl) (by decide) (by intro env; rfl) (by intro env; rfl)))
      show EX W F_law _ (Sm x dx F' (("due", .str (A.again t')) :: ("k", .int i) :: l)) _
      refine EX.cons (EX1.if_ (TR.cmp (EV.meth (f := 189) (rm := 5) (nm (by kernel_rfl) (by kernel_rfl) (by l_ints) ⟨x, dx, rfl, rfl, rfl, AR.cons (nm (by kernel_rfl) (by kernel_rfl) (by l_ints) (AR.nil (stemWord hlen hap fun F2 => (nm (by kernel_rfl) (by kernel_rfl) (by l_ints) ⟨_, rfl, ?_⟩)))) (by intro env; rfl)⟩) (by kernel_rfl) (by kernel_rfl) (by kernel_rfl) (by decide) (plS (n := "stemmer")) (by intro env; with_unfolding_all rfl) (by intro env; rfl))))
      rw [hag]
      refine ifN (by rw [bne_self_eq_false]; decide) ?_
      refine EX.nil ?_
      dsimp only
      show EX W F_law _ (Sm x dx F2 (("due", .str (A.again t')) :: ("k", .int i) :: l)) _
      refine EX.cons (EX1.if_ (TR.cmp (nm (by kernel_rfl) (by kernel_rfl) (by l_ints) (nm (by kernel_rfl) (by kernel_rfl) (by l_ints) ⟨_, rfl, ?_⟩))))
      by_cases he : A.again t' = t'
      · refine ifP (by rw [beq_iff_eq]; exact he) ?_
        exact EX.cons (EX1.ret (EV.cbool (yes (Sm x dx F2 l))))
      · refine ifN (by rw [beq_iff_eq]; exact he) ?_
        refine EX.nil ?_
        try dsimp only
        refine EX.cons (asg (by kernel_rfl) (by intro env; rfl) (nm (by kernel_rfl) (by kernel_rfl) (by l_ints) ⟨_, rfl, ?_⟩))
        refine EX.nil ⟨F2, _, A.again t', rfl, by l_ints, by l_ints, ?_, ?_, ?_⟩
        · rw [← hag]; exact A.marked_stem t'
        · rw [← hag]; exact ⟨A.stem_ap hap, Nat.le_trans (A.stem_len t') gt'.2⟩
        · obtain ⟨n, hn⟩ : ∃ n, A.mu t - i = n + 1 := ⟨A.mu t - i - 1, by lia⟩
          rw [hn] at hr
          rw [show A.mu t - (i + 1) = n by lia, ← hag]
          rcases hr with hr | hr
          · exact absurd (hag ▸ hr) he
          · exact hr
    · rintro σ ⟨F', l, t', rfl, k1, k2, hm', gt', hr⟩
      rw [Nat.sub_self] at hr
      exact ⟨F', l, t', rfl, k1, k2, gt', hr⟩
  clear l1 l2 l3
  rintro σ' ⟨F', l, t', rfl, l1, l2, gt', hr⟩
  try dsimp only
  have hlen : t'.length ≤ 500 := by have := gt'.2; lia
  have hap := gt'.1
  refine EX.cons (EX1.ret (EV.cmp (EV.meth (f := 189) (rm := 5) (nm (by kernel_rfl) (by kernel_rfl) (by l_ints) ⟨x, dx, rfl, rfl, rfl, AR.cons (nm (by kernel_rfl) (by kernel_rfl) (by l_ints) (AR.nil (stemWord hlen hap fun F2 => (nm (by kernel_rfl) (by kernel_rfl) (by l_ints) ⟨_, rfl, ?_⟩)))) (by intro env; rfl)⟩) (by kernel_rfl) (by kernel_rfl) (by kernel_rfl) (by decide) (plS (n := "stemmer")) (by intro env; with_unfolding_all rfl) (by intro env; rfl))))
  rw [hr, beq_self_eq_true]
  exact yes (Sm x dx F2 l)
end
noncomputable section
open PySem PySem.W PySem.Calls PyProof.Rows Builtin
open H (Sets fEnd KF kf_in QV looseV PW)
theorem law_call {w : World} {v d : Obj} {os : OsState} {s₁ : Shared} (hB : H.Begun w v d os s₁) {l : Addr} {items : Array Value} {ns : List Int} (hl : s₁.heap.IsList l items) (hi : IntsAre items.toList ns) (hz : ns.length ≤ 63) :
    wpAny (model PW w) callerA (PySem.call (.ref 782) [.ref l]) (fun v s' => v = .bool true ∧ (∀ b o, s₁.heap.get? b = some o → s'.heap.get? b = some o) ∧ s'.os = s₁.os ∧ s'.gens = #[]) (fun _ _ => False) s₁ := by
  let W : Wx := ⟨w, v, d, os, hB.sets⟩
  have hH : ∀ b o, W.H.get? b = some o → s₁.heap.get? b = some o := hB.base
  have hK : W.K.In s₁.heap := W.kin hH
  obtain ⟨mg, mb, T⟩ := W.top hH
  have ho : W.K.lookup 782 = some ⟨.type "function", none, .func (fnOf (sName (H.st1 25)) "law" (sParams (H.st1 25)) (sBody (H.st1 25)) (sScope (H.st1 25)) .none .none .none (H.S "law_is0015_01" 2377) none (.ref 781) .none), #[]⟩ := by kernel_rfl
  have hcd : codeIn W.K (.ref 781) "law" = true := by kernel_rfl
  refine wpAny_call (codeAny_call_def (fd := fnOf (sName (H.st1 25)) "law" (sParams (H.st1 25)) (sBody (H.st1 25)) (sScope (H.st1 25)) .none .none .none (H.S "law_is0015_01" 2377) none (.ref 781) .none) (body := sBody (H.st1 25)) (binds := [("script", .ref l)])
    (by decide +kernel) (hK _ _ ho) rfl T.nolimit (codeRec_of hK hcd) rfl (BindsTo.of_eq (by kernel_rfl)) ?_ ?_ (fun h₁ hns hk₁ => ?_) (by kernel_rfl) (by kernel_rfl) (by kernel_rfl))
  · have h0 : ((sScope (H.st1 25)).names.all fun x => x.2 != .cell) = true := by kernel_rfl
    intro x hx
    have := List.all_eq_true.mp h0 x hx
    simpa using this
  · intro y hy
    obtain rfl := List.mem_singleton.mp hy
    kernel_rfl
  let g : Cx := ⟨F_law, s₁.heap, { objs := #[] }, s₁.heap.objs.size, []⟩
  have hknd : (sScope (H.st1 25)).kind = .function := by kernel_rfl
  have ff : h₁.FunFrames s₁.heap (g.env :: []) := by
    refine Heap.FunFrames.cons (L := s₁.heap.objs.size) (by show (sScope (H.st1 25)).kind ≠ .module; rw [hknd]; decide) rfl hns (Heap.get?_none_of_le (Nat.le_refl _)) trivial
  have hsk : F_law.sc.kind = .function := by kernel_rfl
  have I : In W g (callerA.deeper g.env) ⟨[("script", .ints ns)], none, [], none⟩ { s₁ with heap := h₁, toks := s₁.toks + 1 } := by
    refine ⟨rfl, rfl, (by show callerA.depth + 1 + 10 * 6 ≤ 900; decide +kernel), (by show callerA.units + 3 + 50 * 6 ≤ 5000; decide +kernel), hsk, hH, fun b o e => hk₁ b o e, fun b o e => ?_, ?_, ff, fun b hb => ?_, ⟨_, hns, fun x a e => ?_, trivial⟩, trivial, hB.gens, hB.os⟩
    · cases e
    · rfl
    · have hb : b ∈ [s₁.heap.objs.size] := hb
      obtain rfl := List.mem_singleton.mp hb
      obtain ⟨oL, es, ep, a1, a2, _⟩ := hns
      exact ⟨oL, es, ep, a1, a2⟩
    · rw [List.lookup_cons] at e
      by_cases q : x = "script"
      · subst q
        rw [beq_self_eq_true] at e
        cases e
        refine ⟨.ref l, rfl, l, items.toList, rfl, ?_, hi⟩
        obtain ⟨o, e, r⟩ := hl
        exact ⟨o, hk₁ _ _ e, by simpa using r⟩
      · rw [show (x == ("script" : Str)) = false from beq_eq_false_iff_ne.mpr q] at e
        cases e
  refine (law_body (W := W) (Q := fun a _ => a = .bool true) hz rfl).run g (callerA.deeper g.env) _ _ _ rfl I (fun f S' r σ' hq I2 hf => ?_) (fun e S' kk σ' hq I2 hx => ?_)
  · obtain ⟨a, hr, _, rfl⟩ := hq
    rcases hr with rfl | ⟨_, hr⟩
    · obtain ⟨v, rfl, r⟩ := hf
      exact ⟨r, fun b o e => I2.st b o e, I2.os.trans hB.os.symm, I2.gens⟩
    · cases hr
  · obtain ⟨a, hr, _⟩ := hq
    rcases hr with hr | ⟨hr, _⟩ <;> cases hr
theorem law_holds : PySem.Challenge.rw_is0015_01.Holds :=
  H.holds_of_call fun _ _ _ _ _ hB _ _ _ _ hl hi hz => law_call hB hl hi hz
end
end Mine
theorem PySem.Challenge.cw_is0015_01_holds : PySem.Challenge.rw_is0015_01.Holds :=
  Mine.law_holds
