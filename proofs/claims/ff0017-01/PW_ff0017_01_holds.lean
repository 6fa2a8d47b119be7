import PyProof.Rows.All
import Wide.All
import OpenK.AllK
import Wide.FinOn
import PySem.Challenge.RW_ff0017_01
open PySem PySem.W PyProof.Rows
set_option Elab.async false
set_option maxRecDepth 100000
set_option maxHeartbeats 4000000
set_option linter.all false
open_top Mine.hd for PySem.Challenge.rw_ff0017_01
namespace Mine
open Sem (wp)
/-- a run has one end -/
theorem runs_det {M : Model} {Γ : Ctx} {p : Pos} {t : Sem Fin} {fs : List Frame} {s : Shared} {e₁ : End} {s₁ : Shared} (h : Runs M Γ p t fs s e₁ s₁) :
    ∀ e₂ s₂, Runs M Γ p t fs s e₂ s₂ → e₁ = e₂ ∧ s₁ = s₂ := by
  induction h with
  | done => intro e₂ s₂ h; cases h; exact ⟨rfl, rfl⟩
  | raise => intro e₂ s₂ h; cases h; exact ⟨rfl, rfl⟩
  | again _ _ ih => intro e₂ s₂ h; cases h with | again _ h => exact ih _ _ h
  | rule _ ih => intro e₂ s₂ h; cases h with | rule h => exact ih _ _ h
  | «at» _ ih => intro e₂ s₂ h; cases h with | «at» h => exact ih _ _ h
  | load ho _ ih => intro e₂ s₂ h; cases h with | load ho' h => (rw [ho] at ho'; cases ho'; exact ih _ _ h)
  | update _ _ ih => intro e₂ s₂ h; cases h with | update _ h => exact ih _ _ h
  | loadIfAlive _ ih => intro e₂ s₂ h; cases h with | loadIfAlive h => exact ih _ _ h
  | point _ ih => intro e₂ s₂ h; cases h with | point h => exact ih _ _ h
  | alloc _ ih => intro e₂ s₂ h; cases h with | alloc h => exact ih _ _ h
  | fresh _ ih => intro e₂ s₂ h; cases h with | fresh h => exact ih _ _ h
  | ask _ ih => intro e₂ s₂ h; cases h with | ask h => exact ih _ _ h
  | choose _ _ ih => intro e₂ s₂ h; cases h with | choose _ h => exact ih _ _ h
  | os _ ih => intro e₂ s₂ h; cases h with | os h => exact ih _ _ h
  | handled _ ih => intro e₂ s₂ h; cases h with | handled h => exact ih _ _ h
  | genState hg _ ih => intro e₂ s₂ h; cases h with | genState hg' h => (rw [hg] at hg'; cases hg'; exact ih _ _ h)
  | stack _ ih => intro e₂ s₂ h; cases h with | stack h => exact ih _ _ h
  | thread _ ih => intro e₂ s₂ h; cases h with | thread h => exact ih _ _ h
  | newGen _ ih => intro e₂ s₂ h; cases h with | newGen h => exact ih _ _ h
  | call _ _ ih1 ih2 =>
    intro e₂ s₂ h
    cases h with
    | call h1 h2 => (obtain ⟨a, b⟩ := ih1 _ _ h1; cases a; subst b; exact ih2 _ _ h2)
    | callSusp h1 => (obtain ⟨a, _⟩ := ih1 _ _ h1; cases a)
  | callSusp _ ih1 =>
    intro e₂ s₂ h
    cases h with
    | call h1 h2 => (obtain ⟨a, _⟩ := ih1 _ _ h1; cases a)
    | callSusp h1 => (obtain ⟨a, b⟩ := ih1 _ _ h1; cases a; subst b; exact ⟨rfl, rfl⟩)
  | yield => intro e₂ s₂ h; cases h; exact ⟨rfl, rfl⟩
  | resumeFresh hg _ _ _ ih1 ih2 =>
    intro e₂ s₂ h
    cases h with
    | resumeFresh hg' h1 _ h2 => (rw [hg] at hg'; cases hg'; obtain ⟨a, b⟩ := ih1 _ _ h1; subst a; subst b; exact ih2 _ _ h2)
    | resumeSuspended hg' => (rw [hg] at hg'; cases hg')
    | resumeJustStarted hg' hv => exact absurd rfl hv
    | resumeRunning hg' => (rw [hg] at hg'; cases hg')
    | resumeFinished hg' => (rw [hg] at hg'; cases hg')
  | resumeSuspended hg _ _ _ ih1 ih2 =>
    intro e₂ s₂ h
    cases h with
    | resumeFresh hg' => (rw [hg] at hg'; cases hg')
    | resumeSuspended hg' h1 _ h2 => (rw [hg] at hg'; cases hg'; obtain ⟨a, b⟩ := ih1 _ _ h1; subst a; subst b; exact ih2 _ _ h2)
    | resumeJustStarted hg' hv => (rw [hg] at hg'; cases hg')
    | resumeThrowFresh hg' => (rw [hg] at hg'; cases hg')
    | resumeRunning hg' => (rw [hg] at hg'; cases hg')
    | resumeFinished hg' => (rw [hg] at hg'; cases hg')
  | resumeJustStarted hg hv _ ih =>
    intro e₂ s₂ h
    cases h with
    | resumeFresh hg' => exact absurd rfl hv
    | resumeSuspended hg' => (rw [hg] at hg'; cases hg')
    | resumeJustStarted hg' _ h => exact ih _ _ h
    | resumeRunning hg' => (rw [hg] at hg'; cases hg')
    | resumeFinished hg' => (rw [hg] at hg'; cases hg')
  | resumeThrowFresh hg _ ih =>
    intro e₂ s₂ h
    cases h with
    | resumeSuspended hg' => (rw [hg] at hg'; cases hg')
    | resumeThrowFresh hg' h => exact ih _ _ h
    | resumeRunning hg' => (rw [hg] at hg'; cases hg')
    | resumeFinished hg' => (rw [hg] at hg'; cases hg')
  | resumeRunning hg _ ih =>
    intro e₂ s₂ h
    cases h with
    | resumeFresh hg' => (rw [hg] at hg'; cases hg')
    | resumeSuspended hg' => (rw [hg] at hg'; cases hg')
    | resumeJustStarted hg' hv => (rw [hg] at hg'; cases hg')
    | resumeThrowFresh hg' => (rw [hg] at hg'; cases hg')
    | resumeRunning hg' h => exact ih _ _ h
    | resumeFinished hg' => (rw [hg] at hg'; cases hg')
  | resumeFinished hg _ ih =>
    intro e₂ s₂ h
    cases h with
    | resumeFresh hg' => (rw [hg] at hg'; cases hg')
    | resumeSuspended hg' => (rw [hg] at hg'; cases hg')
    | resumeJustStarted hg' hv => (rw [hg] at hg'; cases hg')
    | resumeThrowFresh hg' => (rw [hg] at hg'; cases hg')
    | resumeRunning hg' => (rw [hg] at hg'; cases hg')
    | resumeFinished hg' h => exact ih _ _ h
  | segRet _ _ ih1 ih2 =>
    intro e₂ s₂ h
    cases h with
    | segRet h1 h2 => (obtain ⟨a, b⟩ := ih1 _ _ h1; cases a; subst b; exact ih2 _ _ h2)
    | segSuspOut _ h1 => (obtain ⟨a, _⟩ := ih1 _ _ h1; cases a)
    | segSuspGen _ h1 => (obtain ⟨a, _⟩ := ih1 _ _ h1; cases a)
  | segGen _ _ ih1 ih2 =>
    intro e₂ s₂ h
    cases h with
    | segGen h1 h2 => (obtain ⟨a, b⟩ := ih1 _ _ h1; cases a; subst b; exact ih2 _ _ h2)
    | segSuspOut _ h1 => (obtain ⟨a, _⟩ := ih1 _ _ h1; cases a)
    | segSuspGen _ h1 => (obtain ⟨a, _⟩ := ih1 _ _ h1; cases a)
  | segSuspOut hn _ ih1 =>
    intro e₂ s₂ h
    cases h with
    | segRet h1 h2 => (obtain ⟨a, _⟩ := ih1 _ _ h1; cases a)
    | segGen h1 h2 => (obtain ⟨a, _⟩ := ih1 _ _ h1; cases a)
    | segSuspOut _ h1 => (obtain ⟨a, b⟩ := ih1 _ _ h1; cases a; subst b; exact ⟨rfl, rfl⟩)
    | segSuspGen hs _ => (rw [hn] at hs; cases hs)
  | segSuspGen hs _ _ _ ih1 ih2 =>
    intro e₂ s₂ h
    cases h with
    | segRet h1 h2 => (obtain ⟨a, _⟩ := ih1 _ _ h1; cases a)
    | segGen h1 h2 => (obtain ⟨a, _⟩ := ih1 _ _ h1; cases a)
    | segSuspOut hn _ => (rw [hn] at hs; cases hs)
    | segSuspGen hs' h1 _ h2 => (rw [hs] at hs'; cases hs'; obtain ⟨a, b⟩ := ih1 _ _ h1; cases a; subst b; exact ih2 _ _ h2)

theorem wakes_det {M : Model} {Γ : Ctx} {p : Pos} {g : Nat} {r : Resume} {s : Shared} {x y : GenResult} {s₁ s₂ : Shared} (h : Wakes M Γ p g r s x s₁) (h' : Wakes M Γ p g r s y s₂) : x = y ∧ s₁ = s₂ := by
  unfold Wakes at h h'
  split at h
  · cases h
  · split at h
    · obtain ⟨e, t, a, _, rfl, rfl⟩ := h
      simp only [*] at h'
      obtain ⟨e', t', a', _, rfl, rfl⟩ := h'
      obtain ⟨rfl, rfl⟩ := runs_det a _ _ a'
      exact ⟨rfl, rfl⟩
    · simp only [*] at h'
      obtain ⟨rfl, rfl⟩ := h
      obtain ⟨rfl, rfl⟩ := h'
      exact ⟨rfl, rfl⟩
    · simp only [*] at h'
      obtain ⟨rfl, rfl⟩ := h
      obtain ⟨rfl, rfl⟩ := h'
      exact ⟨rfl, rfl⟩
  · simp only [*] at h'
    obtain ⟨e, t, a, _, rfl, rfl⟩ := h
    obtain ⟨e', t', a', _, rfl, rfl⟩ := h'
    obtain ⟨rfl, rfl⟩ := runs_det a _ _ a'
    exact ⟨rfl, rfl⟩
  · simp only [*] at h'
    obtain ⟨rfl, rfl⟩ := h
    obtain ⟨rfl, rfl⟩ := h'
    exact ⟨rfl, rfl⟩
  · simp only [*] at h'
    obtain ⟨rfl, rfl⟩ := h
    obtain ⟨rfl, rfl⟩ := h'
    exact ⟨rfl, rfl⟩

theorem wp_forall {M : Model} {Γ : Ctx} {α : Type} {ι : Type} (i₀ : ι) (t : Sem α) : ∀ {Q : ι → α → Pos → Shared → Prop} {E : ι → Value → Pos → Shared → Prop} {p : Pos} {s : Shared},
    (∀ i, wp M Γ t (Q i) (E i) p s) → wp M Γ t (fun a p s => ∀ i, Q i a p s) (fun e p s => ∀ i, E i e p s) p s := by
  induction t with
  | pure a => intro Q E p s h; exact fun i => h i
  | raise e => intro Q E p s h; exact fun i => h i
  | unsupported => intro Q E p s h; exact (h i₀).elim
  | finish => intro Q E p s h; exact (h i₀).elim
  | rule _ k ih => intro Q E p s h; exact ih () fun i => h i
  | «at» _ k ih => intro Q E p s h; exact ih () fun i => h i
  | load a _ k ih =>
    intro Q E p s h
    obtain ⟨o, ho, _⟩ := h i₀
    refine ⟨o, ho, ih o fun i => ?_⟩
    obtain ⟨o', ho', h'⟩ := h i
    rw [ho] at ho'; cases ho'
    exact h'
  | update a _ f k ih => intro Q E p s h; exact ⟨(h i₀).1, ih () fun i => (h i).2⟩
  | loadIfAlive a k ih => intro Q E p s h; exact ih _ fun i => h i
  | point _ k ih => intro Q E p s h; exact ih () fun i => h i
  | register => intro Q E p s h; exact (h i₀).elim
  | alloc o k ih => intro Q E p s h; exact ih _ fun i => h i
  | fresh k ih => intro Q E p s h; exact ih _ fun i => h i
  | ask k ih => intro Q E p s h; exact ih _ fun i => h i
  | choose src n k ih => intro Q E p s h; exact ⟨(h i₀).1, ih _ fun i => (h i).2⟩
  | os q _ k ih => intro Q E p s h; exact ih _ fun i => h i
  | call c hd _ _ k ih =>
    intro Q E p s h
    obtain ⟨r, s', hr, _⟩ := h i₀
    refine ⟨r, s', hr, ih r fun i => ?_⟩
    obtain ⟨r', s'', hr', h'⟩ := h i
    obtain ⟨a, rfl⟩ := runs_det hr _ _ hr'
    cases a
    exact h'
  | handled own k ih => intro Q E p s h; exact ih _ fun i => h i
  | genState g k ih =>
    intro Q E p s h
    obtain ⟨o, ho, _⟩ := h i₀
    refine ⟨o, ho, ih _ fun i => ?_⟩
    obtain ⟨o', ho', h'⟩ := h i
    rw [ho] at ho'; cases ho'
    exact h'
  | newGen c k ih => intro Q E p s h; exact ih _ fun i => h i
  | resume g r _ k ih =>
    intro Q E p s h
    obtain ⟨r, s', hr, _⟩ := h i₀
    refine ⟨r, s', hr, ih r fun i => ?_⟩
    obtain ⟨r', s'', hr', h'⟩ := h i
    obtain ⟨rfl, rfl⟩ := wakes_det hr hr'
    exact h'
  | yield => intro Q E p s h; exact (h i₀).elim
  | stack k ih => intro Q E p s h; exact ih _ fun i => h i
  | fork => intro Q E p s h; exact (h i₀).elim
  | thread k ih => intro Q E p s h; exact ih _ fun i => h i
  | await => intro Q E p s h; exact (h i₀).elim

theorem wpAny_forall {M : Model} {A : Around} {α : Type} {ι : Type} (i₀ : ι) {t : Sem α} {Q : ι → α → Shared → Prop} {E : ι → Value → Shared → Prop} {s : Shared}
    (h : ∀ i, wpAny M A t (Q i) (E i) s) : wpAny M A t (fun a s' => ∀ i, Q i a s') (fun e s' => ∀ i, E i e s') s :=
  fun Γ p hΓ => wp_forall i₀ t fun i => h i Γ p hΓ
theorem wpAny_and {M : Model} {A : Around} {α : Type} {t : Sem α} {Q Q' : α → Shared → Prop} {E E' : Value → Shared → Prop} {s : Shared}
    (h : wpAny M A t Q E s) (h' : wpAny M A t Q' E' s) : wpAny M A t (fun a s' => Q a s' ∧ Q' a s') (fun e s' => E e s' ∧ E' e s') s :=
  wpAny_mono (wpAny_forall (ι := Bool) true (Q := fun b => if b then Q else Q') (E := fun b => if b then E else E') (fun i => by cases i; exact h'; exact h))
    (fun _ _ x => ⟨x true, x false⟩) (fun _ _ x => ⟨x true, x false⟩)
end Mine
namespace Mine
abbrev prg : Program := PySem.Challenge.pw_ff0017_01
def mainBody : List Stmt := PySem.Challenge.pw_ff0017_01.main.body
def lawScope : Scope := match mainBody.getLast? with
  | some (.FunctionDef _ _ _ _ _ _ sc ..) => sc
  | _ => default
def envLaw (fa L : Addr) : Env := envOfC (Str.ofString "law") lawScope L fa (.ref 185)

section
variable {prog : Program} {w : World} {K : Type} [DecidableEq K] {knd : KeyKind prog w K} {A : Around} {E : Value → Shared → Prop} {s : Shared} {h₀ : Heap} {L d : Addr} {m : Str → Option Value} {news : List (Addr × Obj)} {g : Obj → List (Addr × Obj)} {o : Obj} {kvs : List (K × Value)} {k : K} {key v : Value}
theorem ni_some {Q : Value → Shared → Prop} (N : News h₀ L s.heap news) (hp : (d, o) ∈ news) (hd : o.IsDictOf knd kvs) (lo : (d == sysModules) = false) (hkey : knd.is k key = true) (hb : valueAt kvs k = some v) (h : Q (.bool false) { s with toks := s.toks + 1 }) :
    wpAny (model prog w) A (compareOp .NotIn key (.ref d)) Q E s := kdg_notin N hp hd lo hkey true (by rw [hb]; rfl) h
theorem ni_none {Q : Value → Shared → Prop} (N : News h₀ L s.heap news) (hp : (d, o) ∈ news) (hd : o.IsDictOf knd kvs) (lo : (d == sysModules) = false) (hkey : knd.is k key = true) (hb : valueAt kvs k = none) (h : Q (.bool true) { s with toks := s.toks + 1 }) :
    wpAny (model prog w) A (compareOp .NotIn key (.ref d)) Q E s := kdg_notin N hp hd lo hkey false (by rw [hb]; rfl) h
theorem in_some {Q : Value → Shared → Prop} (N : News h₀ L s.heap news) (hp : (d, o) ∈ news) (hd : o.IsDictOf knd kvs) (lo : (d == sysModules) = false) (hkey : knd.is k key = true) (hb : valueAt kvs k = some v) (h : Q (.bool true) { s with toks := s.toks + 1 }) :
    wpAny (model prog w) A (compareOp .In key (.ref d)) Q E s := kda_in N hp hd lo hkey true (by rw [hb]; rfl) h
theorem in_none {Q : Value → Shared → Prop} (N : News h₀ L s.heap news) (hp : (d, o) ∈ news) (hd : o.IsDictOf knd kvs) (lo : (d == sysModules) = false) (hkey : knd.is k key = true) (hb : valueAt kvs k = none) (h : Q (.bool false) { s with toks := s.toks + 1 }) :
    wpAny (model prog w) A (compareOp .In key (.ref d)) Q E s := kda_in N hp hd lo hkey false (by rw [hb]; rfl) h
end


def Keeps (L : Addr) (D : List Addr) (h h' : Heap) : Prop := ∀ x o, x ≠ L → x ∉ D → h.get? x = some o → h'.get? x = some o
theorem Keeps.refl {L : Addr} {D : List Addr} (h : Heap) : Keeps L D h h := fun _ _ _ _ e => e
theorem Keeps.trans {L : Addr} {D D' : List Addr} {h h' h'' : Heap} (x : Keeps L D h h') (y : Keeps L D' h' h'') : Keeps L (D ++ D') h h'' :=
  fun a o n m e => y a o n (fun q => m (List.mem_append_right _ q)) (x a o n (fun q => m (List.mem_append_left _ q)) e)
theorem Keeps.mono {L : Addr} {D D' : List Addr} {h h' : Heap} (x : Keeps L D h h') (hs : ∀ a ∈ D, a ∈ D') : Keeps L D' h h' := fun a o n m e => x a o n (fun q => m (hs a q)) e
theorem Keeps.news {L : Addr} {D : List Addr} {h₀ h h' : Heap} {news : List (Addr × Obj)} (x : Keeps L D h h') (N : News h₀ L h news) (hd : ∀ p ∈ news, p.1 ∉ D) : News h₀ L h' news :=
  fun p hp => ⟨x _ _ (N p hp).2.1 (hd p hp) (N p hp).1, (N p hp).2⟩

def Ok1 (h₀ : Heap) (L : Addr) (m : Str → Option Value) (x : Addr) (ox : Obj) (P : Value → Heap → Prop) (R : Addr → Heap → Prop) (s : Shared) (v : Value) (s' : Shared) : Prop :=
  ∃ h' tk, s' = { s with heap := h', toks := tk } ∧ Fr h₀ L h' m ∧ h'.get? x = some ox ∧ P v h' ∧ R x h'
def Rz1 (h₀ : Heap) (fa L : Addr) (m : Str → Option Value) (C : Addr) (x : Addr) (ox : Obj) (P : Heap → Prop) (s : Shared) (e : Value) (s' : Shared) : Prop :=
  ∃ a t vs h' tk ns, e = .ref a ∧ s' = { s with heap := h', toks := tk } ∧ Fr h₀ L h' m ∧ RaisedK h₀ [envLaw fa L] a (.ref C) t vs ns h' ∧ (x, ox) ∈ ns ∧ ∀ B : Heap, (∀ p ∈ ns, B.get? p.1 = some p.2) → P B
def OkOut (h₀ : Heap) (L : Addr) (m : Str → Option Value) (D : List Addr) (P : Value → Heap → Prop) (R : Addr → Heap → Prop) (s : Shared) (v : Value) (s' : Shared) : Prop :=
  ∃ h' tk, s' = { s with heap := h', toks := tk } ∧ Fr h₀ L h' m ∧ Keeps L D s.heap h' ∧ P v h' ∧ ∀ x o, s.heap.get? x = some o → h₀.get? x = none → x ≠ L → x ∉ D → R x h'
def RzOut (h₀ : Heap) (fa L : Addr) (m : Str → Option Value) (C : Addr) (D : List Addr) (P : Heap → Prop) (s : Shared) (e : Value) (s' : Shared) : Prop :=
  ∃ a t h' tk B, e = .ref a ∧ s' = { s with heap := h', toks := tk } ∧ Fr h₀ L h' m ∧ h₀.StaysIn B ∧ Heap.FlyingW B [envLaw fa L] a (.ref C) (.ref t) h' ∧ Keeps L D s.heap B ∧ P B

theorem ok1_intro {h₀ : Heap} {L : Addr} {m : Str → Option Value} {x : Addr} {ox : Obj} {P : Value → Heap → Prop} {R : Addr → Heap → Prop} {s : Shared} {v : Value} {h' : Heap} {tk : Nat} {ns : List (Addr × Obj)} (F : Fr h₀ L h' m) (N : News h₀ L h' ns) (hm : (x, ox) ∈ ns) (hp : P v h') (hr : R x h') :
    Ok1 h₀ L m x ox P R s v { heap := h', gens := s.gens, drawn := s.drawn, toks := tk, os := s.os } := ⟨h', tk, rfl, F, N.get hm, hp, hr⟩
theorem raisedK_stays {base : Heap} {l : List Env} {e : Addr} {cls : Value} {t : Addr} {vs : List Value} {news : List (Addr × Obj)} {h : Heap} (R : RaisedK base l e cls t vs news h) : base.StaysIn h := by
  obtain ⟨⟨B, hB, _, hfl, _⟩, _⟩ := R
  exact fun b o q => hfl.1 b o (hB b o q)
theorem rz1_intro {h₀ g : Heap} {fa L : Addr} {m : Str → Option Value} {C x : Addr} {ox : Obj} {P : Heap → Prop} {s : Shared} {a t : Addr} {vs : List Value} {h' : Heap} {tk : Nat} {ns : List (Addr × Obj)} (F : Fr h₀ L g m) (R : RaisedK h₀ [envLaw fa L] a (.ref C) t vs ns h') (U : g.UpToSlots h')
    (hm : (x, ox) ∈ ns) (hp : ∀ B : Heap, (∀ p ∈ ns, B.get? p.1 = some p.2) → P B) :
    Rz1 h₀ fa L m C x ox P s (.ref a) { heap := h', gens := s.gens, drawn := s.drawn, toks := tk, os := s.os } := ⟨a, t, vs, h', tk, ns, rfl, rfl, F.of_stays (raisedK_stays R) U, R, hm, hp⟩

theorem shared_heap {s : Shared} {h h' : Heap} {t t' : Nat} (e : ({ s with heap := h, toks := t } : Shared) = { s with heap := h', toks := t' }) : h = h' := congrArg Shared.heap e

theorem fr_noL {h₀ h : Heap} {L : Addr} {m : Str → Option Value} (F : Fr h₀ L h m) {b : Addr} {o : Obj} (e : h₀.get? b = some o) : b ≠ L := Nat.ne_of_lt (Nat.lt_of_lt_of_le (Heap.lt_size e) F.above)

theorem frame_up {prog : Program} {w : World} {A : Around} {α : Sem Value} {h₀ : Heap} {fa L : Addr} {m : Str → Option Value} {C : Addr} {D : List Addr} {P : Value → Heap → Prop} {R : Addr → Heap → Prop} {PE : Heap → Prop} {s : Shared} (F : Fr h₀ L s.heap m)
    {x₀ : Addr} {ox₀ : Obj} (g0 : s.heap.get? x₀ = some ox₀) (n0 : h₀.get? x₀ = none) (l0 : x₀ ≠ L) (d0 : x₀ ∉ D)
    (H : ∀ x ox, s.heap.get? x = some ox → h₀.get? x = none → x ≠ L → x ∉ D → wpAny (model prog w) A α (Ok1 h₀ L m x ox P R s) (Rz1 h₀ fa L m C x ox PE s) s) :
    wpAny (model prog w) A α (OkOut h₀ L m D P R s) (RzOut h₀ fa L m C D PE s) s := by
  let ι := { p : Addr × Obj // s.heap.get? p.1 = some p.2 ∧ h₀.get? p.1 = none ∧ p.1 ≠ L ∧ p.1 ∉ D }
  let i₀ : ι := ⟨(x₀, ox₀), g0, n0, l0, d0⟩
  refine wpAny_mono (wpAny_forall (ι := ι) i₀ (Q := fun i => Ok1 h₀ L m i.1.1 i.1.2 P R s) (E := fun i => Rz1 h₀ fa L m C i.1.1 i.1.2 PE s) fun i => H _ _ i.2.1 i.2.2.1 i.2.2.2.1 i.2.2.2.2) (fun v s' h => ?_) (fun e s' h => ?_)
  · obtain ⟨h', tk, rfl, F', _, hp, _⟩ := h i₀
    refine ⟨h', tk, rfl, F', fun x o hl hd ho => ?_, hp, fun x o ho q hl hd => ?_⟩
    rotate_left
    · obtain ⟨h'', tk', e, _, _, _, hr⟩ := h ⟨(x, o), ho, q, hl, hd⟩
      rw [shared_heap e]; exact hr
    cases q : h₀.get? x with
    | some o' =>
      have e1 := F.keep x o' q
      rw [ho] at e1; cases e1
      exact F'.keep x o q
    | none =>
      obtain ⟨h'', tk', e, _, g, _, _⟩ := h ⟨(x, o), ho, q, hl, hd⟩
      rw [shared_heap e]; exact g
  · obtain ⟨a, t, vs, h', tk, ns, rfl, rfl, F', ⟨⟨B0, hb, hn, ⟨st, en, ff, oe, ws, T, oT, ts, he, ⟨hc, h0⟩, hd, h1, hTn, hTe, hT, hdT, h3⟩, htn⟩, htup⟩, hmem, hp⟩ := h i₀
    have hfL : B0.get? L = none := by
      obtain ⟨_, ⟨L', o, hf, hn', _⟩, _⟩ := ff
      obtain rfl : L = L' := Option.some.inj hf
      exact hn'
    have off : ∀ b o, h₀.get? b = some o → b ∉ [L, a, T, t] := fun b o q hm => by
      have q' := hb b o q
      rcases List.mem_cons.mp hm with rfl | hm
      · exact fr_noL F q rfl
      rcases List.mem_cons.mp hm with rfl | hm
      · rw [en] at q'; cases q'
      rcases List.mem_cons.mp hm with rfl | hm
      · rw [hTn] at q'; cases q'
      rcases List.mem_cons.mp hm with rfl | hm
      · rw [htn] at q'; cases q'
      · cases hm
    refine ⟨a, t, h', tk, hideAll h' [L, a, T, t], rfl, rfl, F', fun b o q => hideAll_get _ (F'.keep b o q) (off b o q), ?_, ?_, ?_⟩
    · refine ⟨fun b o q => of_hideAll _ q, hideAll_none _ (.tail _ (.head _)), ?_, oe, ws, T, oT, ts, he, ⟨hc, h0⟩, hd, h1, hideAll_none _ (.tail _ (.tail _ (.head _))), hTe, hT, hdT, h3⟩
      obtain ⟨hk, ⟨L', o, hf, _, ho, hdo⟩, _⟩ := ff
      obtain rfl : L = L' := Option.some.inj hf
      exact ⟨hk, ⟨L, o, hf, hideAll_none _ (.head _), ho, hdo⟩, trivial⟩
    · intro x o hl hdx ho
      cases q : h₀.get? x with
      | some o' =>
        have e1 := F.keep x o' q
        rw [ho] at e1; cases e1
        exact hideAll_get _ (F'.keep x o q) (off x o q)
      | none =>
        obtain ⟨a', t', vs', h'', tk', ns', ea, es, _, ⟨⟨B1, hb', hn1, ⟨st', en', ff', oe', ws', T', oT', ts', he', ⟨hc', h0'⟩, hd', h1', hTn', hTe', hT', hdT', h3'⟩, htn'⟩, htup'⟩, hmem', _⟩ := h ⟨(x, o), ho, q, hl, hdx⟩
        cases ea
        have eh := shared_heap es
        subst eh
        rw [he] at he'; cases he'
        rw [hd] at hd'; cases hd'
        rw [h1] at h1'; cases h1'
        rw [h0] at h0'; cases h0'
        have gx := (hn1 _ hmem').1
        refine hideAll_get _ (st' _ _ gx) fun hm => ?_
        rcases List.mem_cons.mp hm with rfl | hm
        · exact hl rfl
        rcases List.mem_cons.mp hm with rfl | hm
        · rw [en'] at gx; cases gx
        rcases List.mem_cons.mp hm with rfl | hm
        · rw [hTn'] at gx; cases gx
        rcases List.mem_cons.mp hm with rfl | hm
        · rw [htn'] at gx; cases gx
        · cases hm
    · refine hp _ fun p hpm => ?_
      have gx := (hn p hpm).1
      refine hideAll_get _ (st _ _ gx) fun hm => ?_
      rcases List.mem_cons.mp hm with e | hm
      · rw [e, hfL] at gx; cases gx
      rcases List.mem_cons.mp hm with e | hm
      · rw [e, en] at gx; cases gx
      rcases List.mem_cons.mp hm with e | hm
      · rw [e, hTn] at gx; cases gx
      rcases List.mem_cons.mp hm with e | hm
      · rw [e, htn] at gx; cases gx
      · cases hm

/-- a def with a parameter **nm is entered: its dict holds the keywords, whatever they are -/
theorem ent_more {prog : Program} {w : World} {A A₀ : Around} {s : Shared} {K : Frag} {L : Addr} {h₀ base : Heap} {m mg mb : Str → Option Value} {news : List (Addr × Obj)} {p : Program} {loose : List Str} {mean : ExcName → Option Value}
    {env : Env} {outer : List Env} {R : Result → Shared → Prop} {name qual : Str} {params : Arguments} {body : List Stmt} {scope : Scope} {dV kV doc pm cdv ct oc : Value} {an od : Option Addr} {osl : Array (Option Value)} {f : Addr} {args : Args} {nm : Str} {ex front : List (Str × Value)} {g₁ : Addr → Sem (List (Str × Value))}
    (Bl : Below A₀ base outer h₀) (F : Fr h₀ L s.heap m) (X₀ : K.In h₀) (N : News h₀ L s.heap news) (T : Top p loose mean mg mb h₀) (hA : A.frames = some (env :: outer)) (hf : env.frame = some L) (hke : env.scope.kind = .function)
    (ho : K.lookup f = some ⟨oc, od, .func (fnOf name qual params body scope dV kV doc pm an cdv ct), osl⟩) (hcd : codeIn K cdv qual = true) (hroom : A.depth < recursionLimit)
    (_hx : args.kw.filter (fun x => !ownKw params x.1) = ex) (_hnm : params.kwarg.map (·.arg) = some nm) (hn : kwDistinct ex = true)
    (_hfr : peek K ⟨prog, w.params⟩ (bindArgs (fnCut (fnOf name qual params body scope dV kV doc pm an cdv ct)) (argsCut params args)) = some front)
    (hp : peekA K ⟨prog, w.params⟩ (bindArgs (fnOf name qual params body scope dV kV doc pm an cdv ct) args) = some (dictOf [] 0, g₁))
    (hk₁ : ∀ D, g₁ D = (forIn ex PUnit.unit (fun x _ => (nsSet D x.1 x.2 >>= fun _ => pure (ForInStep.yield PUnit.unit))) >>= fun _ => pure (front ++ [(nm, Value.ref D)])))
    (hloc : ∀ D, ∀ y ∈ front ++ [(nm, Value.ref D)], scope.names.lookup y.1 = some .local)
    (h : ∀ D o g L' h₁ tk, (∀ p ∈ news, p.1 < D) → (D == sysModules) = false → o.IsDictOf (strKind prog w) ex → Fr h₀ L g m → Fr g L' h₁ (fun y => (front ++ [(nm, Value.ref D)]).reverse.lookup y) → News g L' h₁ ((D, o) :: news) → Below A base (env :: outer) g → K.In g → Top p loose mean mg mb g →
      wpAny (model prog w) (A.deeper (envOf qual scope L' f cdv)) (execs body (envOf qual scope L' f cdv))
        (fun fl s' => LeaveK h₀ L m g R (match fl with | .ret v => v | _ => .none) s')
        (fun e s' => wpAny (model prog w) (A.deeper (envOf qual scope L' f cdv)) (leaving (envOf qual scope L' f cdv) e) (fun _ s'' => R (.error e) s'') (fun e' s'' => R (.error e') s'') s')
        { s with heap := h₁, toks := tk })
    (hco : scope.isCoroutine = false) (hgen : scope.isGenerator = false) (hk : scope.kind = .function)
    (hcell : ∀ x ∈ scope.names, x.2 ≠ .cell) : codeAny (model prog w) A (.call (.ref f) args) R s := by
  have nd := kwDistinct_nodup hn
  refine codeAny_call_function (fd := fnOf name qual params body scope dV kV doc pm an cdv ct) (body := body) hroom ((X₀.keeps F.keep) _ _ ho) rfl hco hgen rfl (codeRec_of (X₀.keeps F.keep) hcd) ?_
  refine wp_of_peekA (o := dictOf [] 0) F N (X₀.keeps F.keep) rfl _ g₁ hp fun h1 F1 N1 l => ?_
  rw [hk₁]
  refine wpAny_bind (kp_fill ex { s with heap := h1 } [] 0 F1 N1 (fun q hq => Nat.ne_of_lt (l q hq)) (fun _ he => nomatch he) (fun _ he => nomatch he) nd fun h2 F2 N2 => wpAny_pure ?_)
  refine kp_frame (cl := []) (s := { s with heap := h2, toks := s.toks + ex.length }) Bl F2 N2 T.nolimit hA hf hke (hloc _) (fun g L' h₁ FG FL NG BG st => ?_) hcell hk
  exact h _ _ g L' h₁ _ l (F.notModules (modules_low T.nolimit)) (kp_isDict s.toks (0 + ex.length) nd) FG FL NG BG (X₀.keeps st) (T.keeps st)
/-- the builder's own dict -/
abbrev bD (w : World) (q1 q2 q3 : Tok) (aN tN : Value) (MS : Addr) : Obj := dictOf [⟨PyData.keyHash w.params "lastBuildId", .str "lastBuildId" q1, aN⟩, ⟨PyData.keyHash w.params "_autoName", .str "_autoName" q2, tN⟩, ⟨PyData.keyHash w.params "mibSymbols", .str "mibSymbols" q3, .ref MS⟩] 3
def TupOut (x : Nat) (vs : Array Value) (v : Value) (h : Heap) : Prop := ∃ (a : Nat) (n : Nat), v = .ref a ∧ h.get? a = some ({ cls := .type "tuple", data := .seq vs n } : Obj) ∧ x < a

abbrev nD (w : World) (u1 u2 u3 : Tok) (tp : Addr) (lab : Str) : Obj := dictOf [⟨PyData.keyHash w.params "name", .str "name" u1, .ref tp⟩, ⟨PyData.keyHash w.params "label", .str "label" u2, .str lab u3⟩] 2

section
variable {K : Type} [DecidableEq K]
theorem val_self (kvs : List (K × Value)) (k : K) (v : Value) : valueAt (stored kvs k v) k = some v := by
  unfold stored
  by_cases h : kvs.any (fun kv => kv.1 = k) = true
  · rw [if_pos h]
    induction kvs with
    | nil => simp at h
    | cons p r ih =>
      obtain ⟨k', v'⟩ := p
      by_cases q : k' = k
      · subst q; simp [valueAt]
      · have h' : r.any (fun kv => kv.1 = k) = true := by simpa [q] using h
        have := ih h'
        simp only [valueAt, List.map_cons, List.find?_cons, q, if_false, decide_false] at this ⊢
        exact this
  · rw [if_neg h]
    induction kvs with
    | nil => simp [valueAt]
    | cons p r ih =>
      obtain ⟨k', v'⟩ := p
      have q : ¬ k' = k := fun e => h (by simp [e])
      have h' : ¬ r.any (fun kv => kv.1 = k) = true := fun e => h (by simp [e])
      have := ih h'
      simp only [valueAt, List.cons_append, List.find?_cons, q, decide_false] at this ⊢
      exact this
theorem val_ne (kvs : List (K × Value)) {k k' : K} (v : Value) (hk : k' ≠ k) : valueAt (stored kvs k v) k' = valueAt kvs k' := by
  unfold stored
  by_cases h : kvs.any (fun kv => kv.1 = k) = true
  · rw [if_pos h]
    clear h
    induction kvs with
    | nil => rfl
    | cons p r ih =>
      obtain ⟨a, b⟩ := p
      by_cases q : a = k
      · subst q
        have : ¬ a = k' := fun e => hk e.symm
        simp only [valueAt, List.map_cons, if_true, List.find?_cons, this, decide_false] at ih ⊢
        exact ih
      · by_cases z : a = k'
        · subst z; simp [valueAt, q]
        · simp only [valueAt, List.map_cons, q, if_false, List.find?_cons, z, decide_false] at ih ⊢
          exact ih
  · rw [if_neg h]
    clear h
    induction kvs with
    | nil =>
      have : ¬ k = k' := fun e => hk e.symm
      simp [valueAt, this]
    | cons p r ih =>
      obtain ⟨a, b⟩ := p
      by_cases z : a = k'
      · subst z; simp [valueAt]
      · simp only [valueAt, List.cons_append, List.find?_cons, z, decide_false] at ih ⊢
        exact ih
theorem len_st {kvs : List (K × Value)} {k : K} {v : Value} {n : Nat} (h : kvs.length ≤ n) : (stored kvs k v).length ≤ n + 1 := Nat.le_trans (stored_length_le kvs k v) (Nat.succ_le_succ h)
end

/-- the builder's dict, a dict of texts, a node -/
def BIs (w : World) (h : Heap) (DB MS : Addr) (c : Int) : Prop := ∃ q1 q2 q3 ct tN, h.get? DB = some (bD w q1 q2 q3 (.int c ct) tN MS)
def DIs (w : World) (h : Heap) (d : Addr) (kvs : List (Str × Value)) : Prop := ∃ o, h.get? d = some o ∧ o.IsDictOf (strKind prg w) kvs ∧ (d == sysModules) = false
def NIs (w : World) (h : Heap) (n d tp : Addr) (lab : Str) : Prop := h.get? n = some (instObj 170 d) ∧ ∃ u1 u2 u3, h.get? d = some (nD w u1 u2 u3 tp lab)
def DAt (w : World) (h : Heap) (d : Addr) (k : Str) (v : Value) : Prop := ∃ o es ep, h.get? d = some o ∧ o.data = .dict es ep ∧ findBy (strKind prg w).is es k = some v
theorem dAt_val {w : World} {h : Heap} {d : Addr} {o : Obj} {kvs : List (Str × Value)} {k : Str} {v : Value} (hg : h.get? d = some o) (hd : o.IsDictOf (strKind prg w) kvs) (q : DAt w h d k v) : valueAt kvs k = some v := by
  obtain ⟨o', es', ep', g', d', f'⟩ := q
  obtain ⟨o2, es, ep, ho, _, hdat, _, hf⟩ := (Heap.dictOf_iff.mpr ⟨o, hg, hd⟩ : h.DictOf (strKind prg w) d kvs).mapOf
  rw [ho] at g'; cases g'
  rw [hdat] at d'; cases d'
  rw [← hf k]; exact f'
theorem lt_of_dAt {w : World} {h : Heap} {MS x TM : Nat} {o : Obj} {kM : List (Str × Value)} {mod : Str} (hg : h.get? MS = some o) (hd : o.IsDictOf (strKind prg w) (stored kM mod (.ref TM))) (hlt : x < TM) : ∀ TM' : Nat, DAt w h MS mod (.ref TM') → x < TM' := fun TM' q => by
  have := dAt_val hg hd q
  rw [val_self] at this
  cases this
  exact hlt
end Mine
namespace Mine
section
variable {prog : Program} {w : World} {K : Type} [DecidableEq K] {knd : KeyKind prog w K} {A : Around} {E : Value → Shared → Prop} {s : Shared} {h₀ : Heap} {L d : Addr} {m : Str → Option Value} {news : List (Addr × Obj)} {g : Obj → List (Addr × Obj)} {o : Obj} {kvs : List (K × Value)} {k : K} {key v : Value}
theorem un_del {Q : Unit → Shared → Prop} (F : Fr h₀ L s.heap m) (N : News h₀ L s.heap news) (U : UpdF d o news g) (hd : o.IsDictOf knd kvs) (hkey : knd.is k key = true) (hl : valueAt kvs k = some v) (hsz : kvs.length ≤ sizeLine)
    (h : ∀ h' o', Fr h₀ L h' m → News h₀ L h' (g o') → o'.IsDictOf knd (without kvs k) → Q () { s with heap := h', toks := s.toks + 1 }) : wpAny (model prog w) A (delItem (.ref d) key) Q E s :=
  kob_del F N U hd hkey (by rw [hl]; rfl) hsz h
theorem tr_yes {Q : Bool → Shared → Prop} (N : News h₀ L s.heap news) (hp : (d, o) ∈ news) (hd : o.IsDictOf knd kvs) (lo : (d == sysModules) = false) (hfit : kvs.length ≤ sizeLine) (hb : kvs ≠ []) (h : Q true { s with toks := s.toks + 1 + 1 }) :
    wpAny (model prog w) A (truthy (.ref d)) Q E s := by
  refine wpAny_truthy_dict lo (kda_dict N hp hd) (by rw [sizeLine_eq] at hfit; omega) ?_
  cases kvs with
  | nil => exact absurd rfl hb
  | cons => exact h
theorem tr_no {Q : Bool → Shared → Prop} (N : News h₀ L s.heap news) (hp : (d, o) ∈ news) (hd : o.IsDictOf knd kvs) (lo : (d == sysModules) = false) (hfit : kvs.length ≤ sizeLine) (hb : kvs = []) (h : Q false { s with toks := s.toks + 1 + 1 }) :
    wpAny (model prog w) A (truthy (.ref d)) Q E s := by
  refine wpAny_truthy_dict lo (kda_dict N hp hd) (by rw [sizeLine_eq] at hfit; omega) ?_
  subst hb; exact h
theorem len_wo {kvs : List (K × Value)} {k : K} {n : Nat} (h : kvs.length ≤ n) : (without kvs k).length ≤ n := Nat.le_trans (List.length_filter_le _ _) h
end
end Mine
namespace Mine
section
variable {prog : Program} {w : World} {K : Type} [DecidableEq K] {knd : KeyKind prog w K} {A : Around} {E : Value → Shared → Prop} {s : Shared} {h₀ : Heap} {L d : Addr} {m : Str → Option Value} {news : List (Addr × Obj)} {g : Obj → List (Addr × Obj)} {o : Obj} {kvs : List (K × Value)} {k : K} {key v dflt : Value}
theorem get_some {Q : Value → Shared → Prop} (N : News h₀ L s.heap news) (hp : (d, o) ∈ news) (hd : o.IsDictOf knd kvs) (lo : (d == sysModules) = false) (hkey : knd.is k key = true) (hl : valueAt kvs k = some v) (h : Q v { s with toks := s.toks + 1 }) :
    wpAny (model prog w) A (call (.builtin "dict.get") [.ref d, key, dflt]) Q E s := kdg_get2 N hp hd lo hkey (some v) hl h
theorem get_none {Q : Value → Shared → Prop} (N : News h₀ L s.heap news) (hp : (d, o) ∈ news) (hd : o.IsDictOf knd kvs) (lo : (d == sysModules) = false) (hkey : knd.is k key = true) (hl : valueAt kvs k = none) (h : Q dflt { s with toks := s.toks + 1 }) :
    wpAny (model prog w) A (call (.builtin "dict.get") [.ref d, key, dflt]) Q E s := kdg_get2 N hp hd lo hkey none hl h
theorem dict_copy {Q : Value → Shared → Prop} (F : Fr h₀ L s.heap m) (N : News h₀ L s.heap news) (hbig : h₀.NoLimit) (hp : (d, o) ∈ news) (hd : o.IsDictOf knd kvs) (lo : (d == sysModules) = false) (hsz : kvs.length ≤ sizeLine)
    (k : ∀ d' h' o', Fr h₀ L h' m → News h₀ L h' ((d', o') :: news) → (∀ p ∈ news, p.1 < d') → (d' == sysModules) = false → o'.IsDictOf knd kvs → Q (.ref d') { s with heap := h' }) :
    wpAny (model prog w) A (call (.type "dict") [.ref d]) Q E s := by
  refine kt_call_dict lo (kda_dict N hp hd) hsz fun h' hm hs => ?_
  obtain ⟨o', ho', hd'⟩ := Heap.dictOf_iff.mp hm
  have N1 := News.push F N { cls := .type "dict", data := .dict #[] }
  exact k _ h' o' ((F.push _).change hs (N1 _ (.head _)).2.1 (N1.fresh (.head _))) (N1.setHead N.apart hs ho') (fun p hp => Heap.lt_size (N p hp).1) (F.notModules (modules_low hbig)) hd'
theorem un_pop {Q : Value → Shared → Prop} (F : Fr h₀ L s.heap m) (N : News h₀ L s.heap news) (U : UpdF d o news g) (hd : o.IsDictOf knd kvs) (hkey : knd.is k key = true)
    (hpart : (keyPart key).isSome = true) (hl : valueAt kvs k = some v) (hsz : kvs.length ≤ sizeLine)
    (h : ∀ h' o', Fr h₀ L h' m → News h₀ L h' (g o') → o'.IsDictOf knd (without kvs k) → Q v { s with heap := h', toks := s.toks + 1 }) :
    wpAny (model prog w) A (call (.builtin "dict.pop") [.ref d, key]) Q E s := kob_pop (more := []) F N U hd hkey (.inl rfl) hpart (PySem.F.args_dict_pop_2 _ _) hl hsz h
end
end Mine
namespace Mine
open PySem.SeqAt
theorem plain_citer : plainId "proto.contains_iter" = true := by decide +kernel
theorem entry_citer : entryFor table "proto.contains_iter" = some Builtin.«proto.contains_iter» := entryFor_of_fast (by kernel_rfl)
theorem values_no_contains : typeLookup (.type "dict_values") "__contains__" = pure none := by rw [typeLookup_type, builtinLookup_eq_fast]; kernel_rfl
section
variable {prog : Program} {w : World} {K : Type} [DecidableEq K] {knd : KeyKind prog w K} {A : Around} {E : Value → Shared → Prop} {d it : Addr} {kvs : List (K × Value)} {ep : Nat} {x : Value}
theorem citer {R : Result → Shared → Prop} (hh : A.handled = none) (hne : d ≠ it) {h₁ : Heap} (e : Value → Bool)
    (he : ∀ y, y ∈ kvs.map (·.2) → ∀ s₁ : Shared, (∀ b o, b ≠ it → h₁.get? b = some o → s₁.heap.get? b = some o) → EqAt A.in1 s₁ y x (e y)) :
    ∀ (n i : Nat) (s : Shared), kvs.length - i = n → i ≤ kvs.length → s.heap.IsValIter it d i kvs.length ep ∧ s.heap.DictAt knd d kvs ep → (∀ b o, b ≠ it → h₁.get? b = some o → s.heap.get? b = some o) →
      (∀ h' tk, (∀ b o, b ≠ it → h₁.get? b = some o → h'.get? b = some o) → R (.ok (.ret (.bool (((kvs.map (·.2)).drop i).any e)))) { s with heap := h', toks := tk }) →
      codeAny (model prog w) A (.builtin "proto.contains_iter" ⟨[.ref it, x], []⟩) R s := by
  have W := Walks.dictValues (prog := prog) (w := w) (A := A.in1) (knd := knd) hh it d hne kvs ep
  intro n
  induction n with
  | zero =>
    intro i s hn hi st kp hR
    have hin : i = kvs.length := by omega
    subst hin
    refine codeAny_builtin entry_citer ?_
    rw [Around.under_plainId plain_citer]
    show wpAny _ _ (pyNext (.ref it) >>= _) _ _ _
    refine wpAny_bind (W.done _ _ _ st fun h' tk k => ?_)
    refine wpAny_bind (wpAny_rule (wpAny_pure ?_))
    have := hR h' tk fun b o hb q => k b o (by simpa using hb) (kp b o hb q)
    rw [show (kvs.map (·.2)).drop kvs.length = [] from List.drop_eq_nil_of_le (by simp)] at this
    exact this
  | succ n ih =>
    intro i s hn hi st kp hR
    have hlt : i < kvs.length := by omega
    refine codeAny_builtin entry_citer ?_
    rw [Around.under_plainId plain_citer]
    show wpAny _ _ (pyNext (.ref it) >>= _) _ _ _
    refine wpAny_bind (W.item i _ _ _ hlt st fun v h' tk hP st' k => ?_)
    have kp' : ∀ b o, b ≠ it → h₁.get? b = some o → h'.get? b = some o := fun b o hb q => k b o (by simpa using hb) (kp b o hb q)
    obtain ⟨k0, hk0⟩ := hP
    have hmem : v ∈ kvs.map (·.2) := List.mem_map.mpr ⟨_, List.mem_of_getElem? hk0, rfl⟩
    have hd : (kvs.map (·.2)).drop i = v :: (kvs.map (·.2)).drop (i + 1) := by
      have hlt' : i < (kvs.map (·.2)).length := by simpa using hlt
      rw [List.drop_eq_getElem_cons hlt']
      congr 1
      have : kvs[i] = (k0, v) := by
        have q := List.getElem?_eq_getElem hlt
        rw [q] at hk0; exact Option.some.inj hk0
      simp [this]
    refine wpAny_bind (he v hmem { s with heap := h', toks := tk } kp' prog w _ _ ?_)
    cases hb : e v with
    | true =>
      simp only [if_true]
      refine wpAny_bind (wpAny_rule (wpAny_pure ?_))
      have := hR h' tk kp'
      rw [hd, List.any_cons, hb] at this
      exact this
    | false =>
      simp only [Bool.false_eq_true, if_false]
      refine wpAny_pure ⟨plainId_quiet plain_citer _, ?_⟩
      refine ih (i + 1) _ (by omega) (by omega) st' kp' fun h'' tk'' k'' => ?_
      have := hR h'' tk'' k''
      rw [hd, List.any_cons, hb] at this
      exact this
theorem in_values {v : Addr} {s : Shared} {Q : Value → Shared → Prop} (hh : A.handled = none) (hv : s.heap.IsValuesView v d) (hm : s.heap.DictAt knd d kvs ep) (e : Value → Bool)
    (he : ∀ y, y ∈ kvs.map (·.2) → ∀ s₁ : Shared, (∀ b o, s.heap.get? b = some o → s₁.heap.get? b = some o) → EqAt A.in1 s₁ y x (e y))
    (h : ∀ h' tk, (∀ b o, s.heap.get? b = some o → h'.get? b = some o) → Q (.bool ((kvs.map (·.2)).any e)) { s with heap := h', toks := tk }) :
    wpAny (model prog w) A (compareOp .In x (.ref v)) Q E s := by
  show wpAny _ _ (do return .bool (← contains (.ref v) x)) Q E s
  refine wpAny_bind ?_
  unfold contains
  refine wpAny_holding ?_
  rw [stdlibNamesSay?_of_typeIs hv.typeIs]
  refine wpAny_bind (wpAny_specialOf hv.typeIs values_no_contains ?_)
  show wpAny _ A (if ((none : Option Value) == some Value.none) = true then _ else _) _ E s
  rw [if_neg (by simp)]
  refine wpAny_bind (wpAny_callSpecialUnlessNone?_none hv.typeIs values_no_contains ?_)
  refine wpAny_bind (wpAny_rule ?_)
  refine wpAny_bind (wpAny_tryCatch (wpAny_pyIter_values hv hm ?_))
  have hd : d < s.heap.objs.size := hm.lt_size
  have up : ∀ b o, s.heap.get? b = some o → (s.heap.push { cls := .type "dict_valueiterator", data := .fields #[.ref d, .int 0 0, .int kvs.length 0, .int ep 0] }).get? b = some o := fun b o q => Heap.get?_push_of_some _ q
  have back : ∀ {h' : Heap}, (∀ b o, b ≠ s.heap.objs.size → (s.heap.push { cls := .type "dict_valueiterator", data := .fields #[.ref d, .int 0 0, .int kvs.length 0, .int ep 0] }).get? b = some o → h'.get? b = some o) → ∀ b o, s.heap.get? b = some o → h'.get? b = some o :=
    fun k b o q => k b o (Nat.ne_of_lt (Heap.lt_size q)) (up b o q)
  refine wpAny_bind (wpAny_runValue (citer hh (Nat.ne_of_lt hd) e (h₁ := s.heap.push { cls := .type "dict_valueiterator", data := .fields #[.ref d, .int 0 0, .int kvs.length 0, .int ep 0] })
    (fun y hy s₁ k => he y hy s₁ (back k)) _ 0 _ rfl (Nat.zero_le _) ⟨⟨_, Heap.get?_push_size _ rfl, rfl, rfl⟩, hm.push _⟩ (fun _ _ _ q => q) fun h' tk k => ?_))
  exact wpAny_pure (wpAny_pure (h h' tk (back k)))
end
end Mine
namespace Mine
theorem zip3_typeCall (a b c : Value) : checkTypeCall "zip" ⟨[a, b, c], []⟩ = pure () := by kernel_rfl
theorem zip3_newCall (a b c : Value) : checkBuiltinCall "zip.__new__" ⟨[.type "zip", a, b, c], []⟩ = pure () := by kernel_rfl
theorem zip3_init (a b c d : Value) : argsOk "object.__init__" ⟨[a, b, c, d], []⟩ := by
  unfold argsOk; rw [signature?_of (id := "object.__init__") (n := ['_', '_', 't', 'i', 'n', 'i', '_', '_']) (o := ['t', 'c', 'e', 'j', 'b', 'o']) (by kernel_rfl) PySem.F.owner_object]; kernel_rfl
abbrev IsTri (h : Heap) (T : Addr) (a b c : Value) : Prop := h.get? T = some { cls := .type "tuple", data := .seq #[a, b, c] }
/-- the zip of three lists, made at I: three iterators, the tuple of them, the tuple it hands out, itself -/
def ZSt (I : Nat) (f0 : Value) (l1 l2 l3 : Nat) (xs ys zs : Array Value) (i : Nat) (h : Heap) : Prop :=
  IsZip h (I + 5) (I + 3) (I + 4) f0 ∧ IsTri h (I + 3) (.ref I) (.ref (I + 1)) (.ref (I + 2)) ∧ (∃ a b c, IsTri h (I + 4) a b c) ∧
    h.IsListIter I l1 i ∧ h.IsListIter (I + 1) l2 i ∧ h.IsListIter (I + 2) l3 i ∧ h.IsList l1 xs ∧ h.IsList l2 ys ∧ h.IsList l3 zs
def ZOff (I c : Nat) : Prop := c ≠ I ∧ c ≠ I + 1 ∧ c ≠ I + 2 ∧ c ≠ I + 4 ∧ c ≠ I + 5
def ZKeep (I : Nat) (h h' : Heap) : Prop := ∀ (c : Nat) o, c ≠ I → c ≠ I + 1 → c ≠ I + 2 → c ≠ I + 4 → c ≠ I + 5 → h.get? c = some o → h'.get? c = some o
section
variable {prog : Program} {w : World} {A : Around} {E : Value → Shared → Prop} {s : Shared}
theorem upd_tri {T : Addr} {a b c x : Value} {k : Nat} {Q : Unit → Shared → Prop} (hT : IsTri s.heap T a b c)
    (h : ∀ h', h'.get? T = some { cls := .type "tuple", data := .seq ((#[a, b, c] : Array Value).setIfInBounds k x) } → Heap.SameBut T s.heap h' → Q () { s with heap := h' }) :
    wpAny (model prog w) A (updateSeq T (·.setIfInBounds k x)) Q E s := by
  refine wpAny_updateSeq hT rfl (h _ ?_ (Heap.SameBut.update ..))
  rw [Heap.get?_update_self _ hT rfl]
  simp [Obj.mapSeq]
theorem nn {a b : Nat} (h : a < b ∨ b < a) : @Ne Addr a b := fun e => by subst e; omega
theorem zip3_item {I l1 l2 l3 i : Nat} {xs ys zs : Array Value} {x y v : Value} {Q : Option Value → Shared → Prop} (b1 : l1 < I) (b2 : l2 < I) (b3 : l3 < I)
    (st : ZSt I .none l1 l2 l3 xs ys zs i s.heap) (hx : xs[i]? = some x) (hy : ys[i]? = some y) (hv : zs[i]? = some v)
    (hQ : ∀ h', ZSt I (rawInt s.heap.objs.size) l1 l2 l3 xs ys zs (i + 1) h' → IsTri h' s.heap.objs.size x y v → ZKeep I s.heap h' → h'.objs.size = s.heap.objs.size + 1 → Q (some (.ref s.heap.objs.size)) { s with heap := h' }) :
    wpAny (model prog w) A (pyNext (.ref (I + 5))) Q E s := by
  obtain ⟨hz, hTI, ⟨a, b, c, hTO⟩, h1, h2, h3, hl1, hl2, hl3⟩ := st
  have hT : s.TypeIs (.ref (I + 5)) "zip" := ⟨_, hz, rfl⟩
  unfold pyNext
  refine wpAny_bind (wpAny_attempt (wpAny_callSpecial?_slot (name := Str.ofString "__next__") hT PySem.F.slot_zip_next
    (wpAny_call_entry PySem.F.slot_zip_next hT PySem.F.entry_zip_next ?_ (PySem.F.args_zip_next_1 _))))
  show wpAny _ _ (field (.ref (I + 5)) 2 >>= _) _ _ _
  refine wpAny_bind (wpAny_field hz rfl (x := .bool false) rfl ?_)
  show wpAny _ _ (field (.ref (I + 5)) 3 >>= _) _ _ _
  refine wpAny_bind (wpAny_field hz rfl (x := .ref (I + 3)) rfl ?_)
  refine wpAny_bind (wpAny_seqItems hTI rfl ?_)
  show wpAny _ _ (Builtin.SmallTypes.ownedTupleIsFree (.ref (I + 5)) >>= _) _ _ _
  refine wpAny_bind ?_
  unfold Builtin.SmallTypes.ownedTupleIsFree
  refine wpAny_bind (wpAny_field hz rfl (x := .none) rfl (wpAny_pure ?_))
  simp only [if_true]
  refine wpAny_bind (wpAny_rule ?_)
  refine wpAny_bind (wpAny_field hz rfl (x := .ref (I + 4)) rfl ?_)
  refine wpAny_bind (wpAny_setField_rec hz (by simp) fun g1 hz1 s1 => ?_)
  replace hz1 : IsZip g1 (I + 5) (I + 3) (I + 4) .ellipsis := hz1
  refine wpAny_bind ?_
  simp only [List.zipIdx_cons, List.zipIdx_nil, List.forIn_cons, List.forIn_nil]
  -- the first
  refine wpAny_bind (wpAny_bind (wpAny_onRaise ?_))
  show wpAny _ _ (Builtin.SmallTypes.nextOf (.ref I) >>= _) _ _ _
  refine wpAny_bind (wpAny_nextOf_list_item (h1.extBut s1.extBut (nn (by omega))) (hl1.extBut s1.extBut (nn (by omega))) hx fun g2 i2 s2 => wpAny_pure ?_)
  have t2 : IsTri g2 (I + 4) a b c := s2.extBut _ _ (nn (by omega)) (s1.extBut _ _ (nn (by omega)) hTO)
  refine wpAny_bind (wpAny_seqItems t2 rfl ?_)
  refine wpAny_bind (upd_tri t2 fun g3 t3 s3 => ?_)
  replace t3 : IsTri g3 (I + 4) x b c := t3
  refine wpAny_bind (wpAny_letGo (wpAny_pure ?_))
  -- the second
  refine wpAny_bind (wpAny_bind (wpAny_onRaise ?_))
  show wpAny _ _ (Builtin.SmallTypes.nextOf (.ref (I + 1)) >>= _) _ _ _
  refine wpAny_bind (wpAny_nextOf_list_item (((h2.extBut s1.extBut (nn (by omega))).extBut s2.extBut (nn (by omega))).extBut s3.extBut (nn (by omega)))
    (((hl2.extBut s1.extBut (nn (by omega))).extBut s2.extBut (nn (by omega))).extBut s3.extBut (nn (by omega))) hy fun g4 i4 s4 => wpAny_pure ?_)
  have t4 : IsTri g4 (I + 4) x b c := s4.extBut _ _ (nn (by omega)) t3
  refine wpAny_bind (wpAny_seqItems t4 rfl ?_)
  refine wpAny_bind (upd_tri t4 fun g5 t5 s5 => ?_)
  replace t5 : IsTri g5 (I + 4) x y c := t5
  refine wpAny_bind (wpAny_letGo (wpAny_pure ?_))
  -- the third
  refine wpAny_bind (wpAny_bind (wpAny_onRaise ?_))
  show wpAny _ _ (Builtin.SmallTypes.nextOf (.ref (I + 2)) >>= _) _ _ _
  refine wpAny_bind (wpAny_nextOf_list_item (((((h3.extBut s1.extBut (nn (by omega))).extBut s2.extBut (nn (by omega))).extBut s3.extBut (nn (by omega))).extBut s4.extBut (nn (by omega))).extBut s5.extBut (nn (by omega)))
    (((((hl3.extBut s1.extBut (nn (by omega))).extBut s2.extBut (nn (by omega))).extBut s3.extBut (nn (by omega))).extBut s4.extBut (nn (by omega))).extBut s5.extBut (nn (by omega))) hv fun g6 i6 s6 => wpAny_pure ?_)
  have t6 : IsTri g6 (I + 4) x y c := s6.extBut _ _ (nn (by omega)) t5
  refine wpAny_bind (wpAny_seqItems t6 rfl ?_)
  refine wpAny_bind (upd_tri t6 fun g7 t7 s7 => ?_)
  replace t7 : IsTri g7 (I + 4) x y v := t7
  refine wpAny_bind (wpAny_letGo (wpAny_pure (wpAny_pure ?_)))
  refine wpAny_bind (wpAny_seqItems t7 rfl ?_)
  refine wpAny_bind (wpAny_newTuple ?_)
  have hsz : g7.objs.size = s.heap.objs.size := by rw [s7.1, s6.1, s5.1, s4.1, s3.1, s2.1, s1.1]
  have z7 : IsZip g7 (I + 5) (I + 3) (I + 4) .ellipsis := s7.extBut _ _ (nn (by omega)) (s6.extBut _ _ (nn (by omega)) (s5.extBut _ _ (nn (by omega)) (s4.extBut _ _ (nn (by omega)) (s3.extBut _ _ (nn (by omega)) (s2.extBut _ _ (nn (by omega)) hz1)))))
  have k7 : ZKeep I s.heap g7 := fun c o c1 c2 c3 c4 c5 e => s7.extBut _ _ c4 (s6.extBut _ _ c3 (s5.extBut _ _ c4 (s4.extBut _ _ c2 (s3.extBut _ _ c4 (s2.extBut _ _ c1 (s1.extBut _ _ c5 e))))))
  have i1' : g7.IsListIter I l1 (i + 1) := ((((i2.extBut s3.extBut (nn (by omega))).extBut s4.extBut (nn (by omega))).extBut s5.extBut (nn (by omega))).extBut s6.extBut (nn (by omega))).extBut s7.extBut (nn (by omega))
  have i2' : g7.IsListIter (I + 1) l2 (i + 1) := ((i4.extBut s5.extBut (nn (by omega))).extBut s6.extBut (nn (by omega))).extBut s7.extBut (nn (by omega))
  have i3' : g7.IsListIter (I + 2) l3 (i + 1) := i6.extBut s7.extBut (nn (by omega))
  have hzlt : I + 5 < g7.objs.size := Heap.lt_size z7
  show wpAny _ _ (Builtin.SmallTypes.ownedTupleHandOut (.ref (I + 5)) (.ref g7.objs.size) >>= _) _ _ _
  refine wpAny_bind ?_
  unfold Builtin.SmallTypes.ownedTupleHandOut
  have z8 : IsZip (g7.push { cls := .type "tuple", data := .seq #[x, y, v] }) (I + 5) (I + 3) (I + 4) .ellipsis := Heap.get?_push_of_some _ z7
  refine wpAny_bind (wpAny_setField_rec z8 (by simp) fun g9 z9 s9 => ?_)
  replace z9 : IsZip g9 (I + 5) (I + 3) (I + 4) (rawInt g7.objs.size) := z9
  refine wpAny_setField_rec z9 (by simp) fun g10 z10 s10 => ?_
  replace z10 : IsZip g10 (I + 5) (I + 3) (I + 4) (rawInt g7.objs.size) := z10
  have up : ∀ (c : Nat) o, c ≠ I + 5 → g7.get? c = some o → g10.get? c = some o := fun c o c1 e => s10.extBut _ _ c1 (s9.extBut _ _ c1 (Heap.get?_push_of_some _ e))
  have hT10 : IsTri g10 g7.objs.size x y v := s10.extBut _ _ (Nat.ne_of_gt hzlt) (s9.extBut _ _ (Nat.ne_of_gt hzlt) (Heap.get?_push_size _ rfl))
  have hz10 : g10.objs.size = g7.objs.size + 1 := by rw [s10.1, s9.1, Heap.size_push]
  rw [hsz] at z10 hT10 hz10
  refine wpAny_pure ⟨_, rfl, ?_⟩
  rw [hsz]
  refine wpAny_pure (hQ g10 ⟨z10, up _ _ (by omega) (k7 _ _ (by omega) (by omega) (by omega) (by omega) (by omega) hTI), ⟨_, _, _, up _ _ (by omega) t7⟩, i1'.at fun o e => up _ o (by omega) e, i2'.at fun o e => up _ o (by omega) e, i3'.at fun o e => up _ o (by omega) e,
    hl1.at fun o e => up _ o (by omega) (k7 _ o (by omega) (by omega) (by omega) (by omega) (by omega) e), hl2.at fun o e => up _ o (by omega) (k7 _ o (by omega) (by omega) (by omega) (by omega) (by omega) e), hl3.at fun o e => up _ o (by omega) (k7 _ o (by omega) (by omega) (by omega) (by omega) (by omega) e)⟩ hT10
    (fun c o c1 c2 c3 c4 c5 e => up c o c5 (k7 c o c1 c2 c3 c4 c5 e)) hz10)
theorem zip3_end {I l1 l2 l3 i : Nat} {xs ys zs : Array Value} {Q : Option Value → Shared → Prop} (hh : A.handled = none) (b1 : l1 < I)
    (st : ZSt I .none l1 l2 l3 xs ys zs i s.heap) (hx : xs[i]? = none)
    (hQ : ∀ h', ZKeep I s.heap h' → Q none { s with heap := h' }) :
    wpAny (model prog w) A (pyNext (.ref (I + 5))) Q E s := by
  obtain ⟨hz, hTI, ⟨a, b, c, hTO⟩, h1, h2, h3, hl1, hl2, hl3⟩ := st
  have hT : s.TypeIs (.ref (I + 5)) "zip" := ⟨_, hz, rfl⟩
  unfold pyNext
  refine wpAny_bind (wpAny_attempt (wpAny_callSpecial?_slot (name := Str.ofString "__next__") hT PySem.F.slot_zip_next
    (wpAny_call_entry PySem.F.slot_zip_next hT PySem.F.entry_zip_next ?_ (PySem.F.args_zip_next_1 _))))
  show wpAny _ _ (field (.ref (I + 5)) 2 >>= _) _ _ _
  refine wpAny_bind (wpAny_field hz rfl (x := .bool false) rfl ?_)
  show wpAny _ _ (field (.ref (I + 5)) 3 >>= _) _ _ _
  refine wpAny_bind (wpAny_field hz rfl (x := .ref (I + 3)) rfl ?_)
  refine wpAny_bind (wpAny_seqItems hTI rfl ?_)
  show wpAny _ _ (Builtin.SmallTypes.ownedTupleIsFree (.ref (I + 5)) >>= _) _ _ _
  refine wpAny_bind ?_
  unfold Builtin.SmallTypes.ownedTupleIsFree
  refine wpAny_bind (wpAny_field hz rfl (x := .none) rfl (wpAny_pure ?_))
  simp only [if_true]
  refine wpAny_bind (wpAny_rule ?_)
  refine wpAny_bind (wpAny_field hz rfl (x := .ref (I + 4)) rfl ?_)
  refine wpAny_bind (wpAny_setField_rec hz (by simp) fun g1 hz1 s1 => ?_)
  replace hz1 : IsZip g1 (I + 5) (I + 3) (I + 4) .ellipsis := hz1
  refine wpAny_bind ?_
  simp only [List.zipIdx_cons, List.zipIdx_nil, List.forIn_cons, List.forIn_nil]
  refine wpAny_bind (wpAny_bind (wpAny_onRaise ?_))
  show wpAny _ _ (Builtin.SmallTypes.nextOf (.ref I) >>= _) _ _ _
  refine wpAny_bind (wpAny_nextOf_list_end hh (h1.extBut s1.extBut (nn (by omega))) (hl1.extBut s1.extBut (nn (by omega))) hx fun g2 e s2 he => ?_)
  obtain ⟨oe, hoe, hce⟩ := he
  have z2 : IsZip g2 (I + 5) (I + 3) (I + 4) .ellipsis := s2 _ _ (nn (by omega)) hz1
  have hez : e ≠ I + 5 := fun x => by subst x; rw [z2] at hoe; cases hoe; simp at hce
  refine wpAny_setField_rec z2 (by simp) fun g3 _ s3 => ?_
  refine wpAny_bind (wpAny_isInstance (T := "StopIteration") (b := true) ⟨oe, s3.extBut _ _ hez hoe, hce⟩ isSubtype_stop ?_)
  exact wpAny_pure (hQ _ fun c o c1 _ _ _ c5 x => s3.extBut _ _ c5 (s2 _ _ c1 (s1.extBut _ _ c5 x)))
theorem zip3_go {elts : List PySem.Expr} {x1} {pos : Pos} {I l1 l2 l3 i T : Nat} {xs ys zs : Array Value} {Q : Unit → Shared → Prop} (b1 : l1 < I) (b2 : l2 < I) (b3 : l3 < I) (st : ZSt I (rawInt T) l1 l2 l3 xs ys zs i s.heap)
    (hQ : ∀ h', ZSt I .none l1 l2 l3 xs ys zs i h' → Heap.SameBut (I + 5) s.heap h' → Q () { s with heap := h' }) :
    wpAny (model prog w) A (letOwnedTupleGo (.Tuple elts x1 pos) (.ref (I + 5)) (.ref T)) Q E s := by
  obtain ⟨hz, hTI, ⟨a, b, c, hTO⟩, h1, h2, h3, hl1, hl2, hl3⟩ := st
  refine wpAny_letOwnedTupleGo_zip hz fun h' hz' hs' => hQ h' ⟨hz', hs'.extBut _ _ (nn (by omega)) hTI, ⟨_, _, _, hs'.extBut _ _ (nn (by omega)) hTO⟩, h1.extBut hs'.extBut (nn (by omega)), h2.extBut hs'.extBut (nn (by omega)), h3.extBut hs'.extBut (nn (by omega)),
    hl1.extBut hs'.extBut (nn (by omega)), hl2.extBut hs'.extBut (nn (by omega)), hl3.extBut hs'.extBut (nn (by omega))⟩ hs'
end
abbrev zh1 (h : Heap) (l : Addr) : Heap := h.push { cls := .type "list_iterator", data := .fields #[.ref l, .int 0 0] }
abbrev zh4 (h : Heap) (l1 l2 l3 : Addr) : Heap := (zh1 (zh1 (zh1 h l1) l2) l3).push { cls := .type "tuple", data := .seq #[.ref h.objs.size, .ref (zh1 h l1).objs.size, .ref (zh1 (zh1 h l1) l2).objs.size] }
abbrev zh5 (h : Heap) (l1 l2 l3 : Addr) : Heap := (zh4 h l1 l2 l3).push { cls := .type "tuple", data := .seq #[.none, .none, .none] }
abbrev zh6 (h : Heap) (l1 l2 l3 : Addr) : Heap := (zh5 h l1 l2 l3).push { cls := .type "zip", data := .fields #[.none, .bool false, .bool false, .ref (zh1 (zh1 (zh1 h l1) l2) l3).objs.size, .ref (zh4 h l1 l2 l3).objs.size] }
theorem meets_zip3 (l1 l2 l3 : Addr) (xs ys zs : Array Value) :
    Meets (Builtin.«zip.__new__» ⟨[.type "zip", .ref l1, .ref l2, .ref l3], []⟩) (fun _ R s => s.heap.IsList l1 xs ∧ s.heap.IsList l2 ys ∧ s.heap.IsList l3 zs ∧
      R (.ok (.ret (.ref (zh5 s.heap l1 l2 l3).objs.size))) { s with heap := zh6 s.heap l1 l2 l3 }) :=
  .of_wp fun prog w A R s h => by
    obtain ⟨hp, g, d, tk, os⟩ := s; obtain ⟨hl1, hl2, hl3, h⟩ := h
    have hsub := sub_zip
    have hL1 : Heap.IsList (Shared.heap ⟨hp, g, d, tk, os⟩) l1 xs := hl1
    have hL2 : Heap.IsList (Shared.heap ⟨zh1 hp l1, g, d, tk, os⟩) l2 ys := Heap.IsList.push hl2 _
    have hL3 : Heap.IsList (Shared.heap ⟨zh1 (zh1 hp l1) l2, g, d, tk, os⟩) l3 zs := Heap.IsList.push (Heap.IsList.push hl3 _) _
    wp_walk using wpAny_pyIter_list hL1, wpAny_pyIter_list hL2, wpAny_pyIter_list hL3
    exact ⟨_, rfl, h⟩
section
variable {prog : Program} {w : World} {A : Around} {E : Value → Shared → Prop} {s : Shared}
theorem call_zip3 {l1 l2 l3 : Addr} {xs ys zs : Array Value} {Q : Value → Shared → Prop} (hl1 : s.heap.IsList l1 xs) (hl2 : s.heap.IsList l2 ys) (hl3 : s.heap.IsList l3 zs)
    (h : ∀ h', ZSt s.heap.objs.size .none l1 l2 l3 xs ys zs 0 h' → h'.objs.size = s.heap.objs.size + 6 → (∀ c o, s.heap.get? c = some o → h'.get? c = some o) → Q (.ref (s.heap.objs.size + 5)) { s with heap := h' }) :
    wpAny (model prog w) A (call (.type "zip") [.ref l1, .ref l2, .ref l3]) Q E s := by
  refine callType_new PySem.F.called_zip (by decide) (zip3_typeCall _ _ _) (zip3_newCall _ _ _) (fun obj => zip3_init obj _ _ _) PySem.F.entry_zip_new
    (meets_zip3 l1 l2 l3 xs ys zs) ⟨hl1, hl2, hl3, ?_⟩
  have z1 : (zh1 s.heap l1).objs.size = s.heap.objs.size + 1 := Heap.size_push ..
  have z2 : (zh1 (zh1 s.heap l1) l2).objs.size = s.heap.objs.size + 2 := by rw [Heap.size_push, z1]
  have z3 : (zh1 (zh1 (zh1 s.heap l1) l2) l3).objs.size = s.heap.objs.size + 3 := by rw [Heap.size_push, z2]
  have z4 : (zh4 s.heap l1 l2 l3).objs.size = s.heap.objs.size + 4 := by rw [Heap.size_push, z3]
  have z5 : (zh5 s.heap l1 l2 l3).objs.size = s.heap.objs.size + 5 := by rw [Heap.size_push, z4]
  have z6 : (zh6 s.heap l1 l2 l3).objs.size = s.heap.objs.size + 6 := by rw [Heap.size_push, z5]
  have up1 : ∀ c o, s.heap.get? c = some o → (zh1 s.heap l1).get? c = some o := fun c o x => Heap.get?_push_of_some _ x
  have up2 : ∀ c o, (zh1 s.heap l1).get? c = some o → (zh1 (zh1 s.heap l1) l2).get? c = some o := fun c o x => Heap.get?_push_of_some _ x
  have up3 : ∀ c o, (zh1 (zh1 s.heap l1) l2).get? c = some o → (zh1 (zh1 (zh1 s.heap l1) l2) l3).get? c = some o := fun c o x => Heap.get?_push_of_some _ x
  have up4 : ∀ c o, (zh1 (zh1 (zh1 s.heap l1) l2) l3).get? c = some o → (zh4 s.heap l1 l2 l3).get? c = some o := fun c o x => Heap.get?_push_of_some _ x
  have up5 : ∀ c o, (zh4 s.heap l1 l2 l3).get? c = some o → (zh5 s.heap l1 l2 l3).get? c = some o := fun c o x => Heap.get?_push_of_some _ x
  have up6 : ∀ c o, (zh5 s.heap l1 l2 l3).get? c = some o → (zh6 s.heap l1 l2 l3).get? c = some o := fun c o x => Heap.get?_push_of_some _ x
  have g6 : (zh6 s.heap l1 l2 l3).get? (zh5 s.heap l1 l2 l3).objs.size = some _ := Heap.get?_push_size _ rfl
  have g5 : (zh6 s.heap l1 l2 l3).get? (zh4 s.heap l1 l2 l3).objs.size = some _ := up6 _ _ (Heap.get?_push_size _ rfl)
  have g4 : (zh6 s.heap l1 l2 l3).get? (zh1 (zh1 (zh1 s.heap l1) l2) l3).objs.size = some _ := up6 _ _ (up5 _ _ (Heap.get?_push_size _ rfl))
  have g3 : (zh6 s.heap l1 l2 l3).get? (zh1 (zh1 s.heap l1) l2).objs.size = some _ := up6 _ _ (up5 _ _ (up4 _ _ (Heap.get?_push_size _ rfl)))
  have g2 : (zh6 s.heap l1 l2 l3).get? (zh1 s.heap l1).objs.size = some _ := up6 _ _ (up5 _ _ (up4 _ _ (up3 _ _ (Heap.get?_push_size _ rfl))))
  have g1 : (zh6 s.heap l1 l2 l3).get? s.heap.objs.size = some _ := up6 _ _ (up5 _ _ (up4 _ _ (up3 _ _ (up2 _ _ (Heap.get?_push_size _ rfl)))))
  have all : ∀ c o, s.heap.get? c = some o → (zh6 s.heap l1 l2 l3).get? c = some o := fun c o x => up6 _ _ (up5 _ _ (up4 _ _ (up3 _ _ (up2 _ _ (up1 _ _ x)))))
  show _ ∧ _
  rw [z3, z4, z5] at g6
  rw [z1, z2, z3] at g4
  rw [z4] at g5
  rw [z2] at g3
  rw [z1] at g2
  rw [z5]
  exact ⟨⟨_, g6, rfl⟩, h _ ⟨g6, g4, ⟨_, _, _, g5⟩, ⟨_, g1, rfl, rfl⟩, ⟨_, g2, rfl, rfl⟩, ⟨_, g3, rfl, rfl⟩, hl1.at fun o e => all _ o e, hl2.at fun o e => all _ o e, hl3.at fun o e => all _ o e⟩ z6 all⟩
end
end Mine
namespace Mine
theorem ltn {h : Heap} {b : Nat} {o : Obj} (e : h.get? b = some o) : b < h.objs.size := Heap.lt_size e
theorem Keeps.push {h : Heap} {L : Addr} (o : Obj) : Keeps L [] h (h.push o) := fun _ _ _ _ e => Heap.get?_push_of_some _ e
theorem Keeps.t2 {h h' h'' : Heap} {L : Addr} (x : Keeps L [] h h') (y : Keeps L [] h' h'') : Keeps L [] h h'' := fun a o n _ e => y a o n (by simp) (x a o n (by simp) e)
def GUp (G : Nat → Value → Nat → Heap → Prop) : Prop := ∀ i y lo (h h' : Heap), G i y lo h → (∀ (b : Nat) o, lo ≤ b → h.get? b = some o → h'.get? b = some o) → G i y lo h'
section
variable {prog : Program} {w : World} {K : Type} [DecidableEq K] {knd : KeyKind prog w K} {A : Around} {E : Value → Shared → Prop} {s : Shared} {h₀ : Heap} {L : Nat} {m : Str → Option Value} {env : Env}
open PyProof.Rows.LCg (lst lst_snoc)
/-- what the turns of a comprehension over a dict's keys may lean on -/
def CElt (prog : Program) (w : World) (A : Around) (h₀ : Heap) (L : Nat) (m : Str → Option Value) (knd : KeyKind prog w K) (kvs : List (K × Value)) (s₁ : Shared) (G : Nat → Value → Nat → Heap → Prop) (elt : PySem.Expr) (cenv : Nat → Env) (At : Nat → Value → Heap → Prop) (kk : Nat) : Prop :=
  ∀ i k xv v (C : Nat) (s₂ : Shared), kvs[i]? = some (k, xv) → knd.is k v = true → (∃ h tk, s₂ = { s₁ with heap := h, toks := tk }) → Fr h₀ L s₂.heap m → C ≠ L → h₀.get? C = none → At C v s₂.heap → s₁.heap.objs.size ≤ C → Keeps L [] s₁.heap s₂.heap →
    ∀ E', wpAny (model prog w) A (eval elt (cenv C)) (fun y s₃ => ∃ h' tk, s₃ = { s₂ with heap := h', toks := tk } ∧ Fr h₀ L h' m ∧ Keeps L [] s₂.heap h' ∧ ∃ lo, C + kk ≤ lo ∧ G i y lo h') E' s₂
def CFin (h₀ : Heap) (L : Nat) (m : Str → Option Value) (n : Nat) (G : Nat → Value → Nat → Heap → Prop) (Q : Value → Shared → Prop) (s₁ : Shared) : Prop :=
  ∀ (D : Nat) h' tk (ys : List Value), Fr h₀ L h' m → Keeps L [] s₁.heap h' → s₁.heap.objs.size ≤ D → h'.get? D = some (lst ys) → ys.length = n → (∀ j y, ys[j]? = some y → ∃ lo, D < lo ∧ G j y lo h') → Q (.ref D) { s₁ with heap := h', toks := tk }
def CSrc (prog : Program) (w : World) (A : Around) (h₀ : Heap) (L : Nat) (m : Str → Option Value) (knd : KeyKind prog w K) (Q : Value → Shared → Prop) (elt : PySem.Expr) (cenv : Nat → Env) (At : Nat → Value → Heap → Prop) (kk : Nat) (xv : Value) (s₁ : Shared) : Prop :=
  ∃ (d : Nat) (kvs : List (K × Value)) (ep : Nat) (G : Nat → Value → Nat → Heap → Prop), xv = .ref d ∧ A.handled = none ∧ (d == sysModules) = false ∧ s₁.heap.DictAt knd d kvs ep ∧ d ≠ L ∧ Fr h₀ L s₁.heap m ∧ kvs.length ≤ sizeLine ∧ GUp G ∧ CElt prog w A h₀ L m knd kvs s₁ G elt cenv At kk ∧ CFin h₀ L m kvs.length G Q s₁
/-- the loop, for a frame of the comprehension's own at C with what it needs (Inv), which the storing of a key changes from C up to hi alone -/
theorem comp_core {elt iter : PySem.Expr} {x : Str} {px : Pos} {scope : Scope} {cenv : Nat → Env} {pos : Pos} {Q : Value → Shared → Prop} {d : Nat} {kvs : List (K × Value)} {ep : Nat} {G : Nat → Value → Nat → Heap → Prop} {s₁ : Shared} {At : Nat → Value → Heap → Prop} {Inv : Heap → Prop} {h₁ : Heap} {C hi kk : Nat} {tk₁ : Nat}
    (hC : C = s₁.heap.objs.size + 2) (hhi : C < hi) (hkk : hi ≤ C + kk)
    (hh : A.handled = none) (hdL : d ≠ L) (F : Fr h₀ L s₁.heap m) (hdlt : d < s₁.heap.objs.size) (hsz : kvs.length ≤ sizeLine) (gup : GUp G) (helt : CElt prog w A h₀ L m knd kvs s₁ G elt cenv At kk) (hQ : CFin h₀ L m kvs.length G Q s₁)
    (iUp : ∀ h h', Inv h → (∀ (b : Nat) o, C ≤ b → b < hi → h.get? b = some o → h'.get? b = some o) → Inv h') (iNs : ∀ h, Inv h → ∃ m', h.Ns C m')
    (put : ∀ v (s' : Shared) (Q' : Unit → Shared → Prop) (E' : Value → Shared → Prop), Inv s'.heap → (∀ h'' tk, Inv h'' → At C v h'' → (∀ (b : Nat) o, b < C ∨ hi ≤ b → s'.heap.get? b = some o → h''.get? b = some o) → hi ≤ h''.objs.size → Q' () { s' with heap := h'', toks := tk }) →
      wpAny (model prog w) A (assign (.Name x px) (cenv C) v) Q' E' s')
    (i₁ : Inv h₁) (old1 : ∀ (b : Nat) o, s₁.heap.get? b = some o → h₁.get? b = some o) (hacc : h₁.get? (s₁.heap.objs.size + 1) = some (lst [])) (hst₁ : h₁.IsKeyIter s₁.heap.objs.size d 0 kvs.length ep ∧ h₁.DictAt knd d kvs ep) :
    codeAny (model prog w) A (.compLoop (.ListComp elt [⟨.Name x px, iter, [], 0⟩] scope pos) 0 (.ref s₁.heap.objs.size) (.ref (s₁.heap.objs.size + 1)) (cenv C))
      (compPost (model prog w) A E none Q (.ref (s₁.heap.objs.size + 1)) C) { s₁ with heap := h₁, toks := tk₁ } := by
  have hLlt : (L : Nat) < s₁.heap.objs.size := F.ns.lt
  have W := Walks.dictKeys (prog := prog) (w := w) (knd := knd) hh s₁.heap.objs.size d (Nat.ne_of_lt hdlt) kvs ep
  have fresh : ∀ (a : Nat), s₁.heap.objs.size ≤ a → h₀.get? a = none := fun a ha => by
    cases e : h₀.get? a with
    | none => rfl
    | some o' => exact absurd (ltn (F.keep a o' e)) (Nat.not_lt.mpr ha)
  have ne0 : ∀ {b : Nat} {o : Obj} {c : Nat}, h₀.get? b = some o → s₁.heap.objs.size ≤ c → b < c := fun {b o c} e l => Nat.lt_of_lt_of_le (ltn (F.keep b o e)) l
  have src : ∀ {b : Nat}, b ∈ [s₁.heap.objs.size, d] → b ≤ s₁.heap.objs.size ∧ b ≠ L := fun {b} hb => by
    have hb' : b = s₁.heap.objs.size ∨ b = d := by simpa using hb
    omega
  refine codeAny_compLoop_tests
    (fun k s' => ∃ h' tk i ys, s' = { s₁ with heap := h', toks := tk } ∧ i ≤ kvs.length ∧ k = kvs.length + 1 - i ∧ ys.length = i ∧ (h'.IsKeyIter s₁.heap.objs.size d i kvs.length ep ∧ h'.DictAt knd d kvs ep) ∧ Fr h₀ L h' m ∧ Inv h' ∧ h'.get? (s₁.heap.objs.size + 1) = some (lst ys) ∧
      Keeps L [] s₁.heap h' ∧ ∀ j y, ys[j]? = some y → ∃ lo, hi ≤ lo ∧ G j y lo h') ?_ (kvs.length + 1)
    ⟨h₁, _, 0, [], rfl, Nat.zero_le _, rfl, rfl, hst₁, F.keeps old1, i₁, hacc, fun (b : Nat) o _ _ e => old1 b o e, fun j y hj => by simp at hj⟩
  rintro k s' ⟨h', tk, i, ys, rfl, hi', rfl, hyl, hst', F', hn', hD', kp', hG'⟩
  by_cases hlt : i < kvs.length
  · refine W.item i _ _ _ hlt hst' fun v h₂ tk₂ hPv hst₂ hk₂ => ?_
    obtain ⟨key, xv, hkx, hkv⟩ := hPv
    have h12 : ∀ (b : Nat) o, b ≠ s₁.heap.objs.size → h'.get? b = some o → h₂.get? b = some o := fun (b : Nat) o b1 e => hk₂ b o (by simpa using b1) e
    refine put v _ _ _ (iUp _ _ hn' fun (b : Nat) o b1 b2 e => h12 b o (by omega) e) fun h₃ tk₃ hn₃ at₃ k₃ z₃ => ?_
    refine wpAny_tests_nil ?_
    simp only [if_true]
    dsimp only at k₃
    have h13 : ∀ (b : Nat) o, b ≠ s₁.heap.objs.size → b < C ∨ hi ≤ b → h'.get? b = some o → h₃.get? b = some o := fun (b : Nat) o b1 b2 e => k₃ b o b2 (h12 b o b1 e)
    have hst₃ := W.frame _ _ h₃ hst₂ fun (b : Nat) hb o e => k₃ b o (by have := src hb; omega) e
    have F₃ : Fr h₀ L h₃ m := ⟨F'.ns.at' fun o e => h13 L o (by omega) (by omega) e, fun (b : Nat) o e => h13 b o (Nat.ne_of_lt (ne0 e (Nat.le_refl _))) (.inl (ne0 e (by omega))) (F'.keep b o e), F'.above⟩
    have kp₃ : Keeps L [] s₁.heap h₃ := fun (b : Nat) o n mm e => by
      have l := ltn e
      exact h13 b o (by omega) (by omega) (kp' b o n mm e)
    have hD₃ : h₃.get? (s₁.heap.objs.size + 1) = some (lst ys) := h13 _ _ (by omega) (by omega) hD'
    refine wpAny_mono (helt i key xv v C _ hkx hkv ⟨h₃, _, rfl⟩ F₃ (by omega) (fresh _ (by omega)) at₃ (by omega) kp₃ _) (fun y s₄ h₄ => ?_) fun _ _ e => e
    obtain ⟨h₄, tk₄, rfl, F₄, kp₄, lo₄, hlo₄, g₄⟩ := h₄
    dsimp only at kp₄ g₄ F₄
    have h34 : ∀ (b : Nat) o, b ≠ L → h₃.get? b = some o → h₄.get? b = some o := fun (b : Nat) o n e => kp₄ b o n (by simp) e
    have hst₄ := W.frame _ _ h₄ hst₃ fun (b : Nat) hb o e => h34 b o (src hb).2 e
    have hD₄ := h34 _ _ (by omega) hD₃
    refine append_at (hsz := by show ys.toArray.size ≤ sizeLine; rw [List.size_toArray, hyl]; exact Nat.le_trans hi' hsz) hD₄ fun h₅ hs₅ hD₅ => ?_
    have h45 : ∀ (b : Nat) o, b ≠ s₁.heap.objs.size + 1 → h₄.get? b = some o → h₅.get? b = some o := fun (b : Nat) o n e => hs₅.extBut b o n e
    refine ⟨kvs.length + 1 - (i + 1), by omega, h₅, tk₄, i + 1, ys ++ [y], rfl, hlt, rfl, by rw [List.length_append, List.length_singleton, hyl], W.frame _ _ _ hst₄ fun (b : Nat) hb o e => h45 b o (by have := src hb; omega) e,
      F₄.change hs₅ (nn (by omega)) (fresh _ (by omega)), iUp _ _ hn₃ fun (b : Nat) o b1 b2 e => h45 b o (by omega) (h34 b o (by omega) e), hD₅.trans (congrArg some (lst_snoc ys y)),
      fun (b : Nat) o n mm e => by
        have l := ltn e
        exact h45 b o (by omega) (h34 b o n (kp₃ b o n mm e)), fun j y' hj => ?_⟩
    by_cases hj' : j < ys.length
    · rw [List.getElem?_append_left hj'] at hj
      obtain ⟨lo', l1, g1⟩ := hG' j y' hj
      exact ⟨lo', l1, gup _ _ _ _ _ g1 fun (b : Nat) o l e => h45 b o (by omega) (h34 b o (by omega) (h13 b o (by omega) (by omega) e))⟩
    · have hje : j = ys.length := by
        have := (List.getElem?_eq_some_iff.mp hj).1
        rw [List.length_append, List.length_singleton] at this
        omega
      subst hje
      rw [List.getElem?_append_right (Nat.le_refl _)] at hj
      simp at hj
      subst hj
      rw [hyl]
      exact ⟨lo₄, by omega, gup _ _ _ _ _ g₄ fun (b : Nat) o l e => h45 b o (by omega) e⟩
  · obtain rfl : i = kvs.length := Nat.le_antisymm hi' (Nat.not_lt.mp hlt)
    refine W.done _ _ _ hst' fun h₂ tk₂ hk₂ => ?_
    have h12 : ∀ (b : Nat) o, b ≠ s₁.heap.objs.size → h'.get? b = some o → h₂.get? b = some o := fun (b : Nat) o b1 e => hk₂ b o (by simpa using b1) e
    obtain ⟨m', hm'⟩ := iNs _ (iUp _ _ hn' fun (b : Nat) o b1 b2 e => h12 b o (by omega) e)
    refine ⟨m', hm', fun h'' hs'' => ?_⟩
    have h23 : ∀ (b : Nat) o, b ≠ C → h₂.get? b = some o → h''.get? b = some o := fun (b : Nat) o b1 e => hs''.extBut b o b1 e
    refine hQ _ h'' tk₂ ys ⟨F'.ns.at' fun o e => h23 L o (by omega) (h12 L o (by omega) e), fun (b : Nat) o e => h23 b o (Nat.ne_of_lt (ne0 e (by omega))) (h12 b o (Nat.ne_of_lt (ne0 e (Nat.le_refl _))) (F'.keep b o e)), F'.above⟩
      (fun (b : Nat) o n mm e => by
        have l := ltn e
        exact h23 b o (by omega) (h12 b o (by omega) (kp' b o n mm e))) (by omega) (h23 _ _ (by omega) (h12 _ _ (by omega) hD')) hyl fun j y hj => ?_
    obtain ⟨lo', l1, g1⟩ := hG' j y hj
    exact ⟨lo', by omega, gup _ _ _ _ _ g1 fun (b : Nat) o l e => h23 b o (by omega) (h12 b o (by omega) e)⟩
theorem comp_local {elt iter : PySem.Expr} {x : Str} {px : Pos} {scope : Scope} {cl : List (Str × Addr)} {pos : Pos} {Q : Value → Shared → Prop}
    (hclos : closureFor scope env = pure cl) (hcell : ∀ y ∈ scope.names, y.2 ≠ .cell) (hkind : scope.kind = .function)
    (hnames : ∀ y ∈ scope.names, y.2 = .local → scope.names.lookup y.1 = some .local) (hx : scope.names.lookup x = some .local)
    (h : wpAny (model prog w) A (eval iter env) (CSrc prog w A h₀ L m knd Q elt (fun C => compEnvC scope cl C env) (fun C v h => ∃ m₂, h.Ns C m₂ ∧ m₂ x = some v) 1) E s)
    (hs : ∀ x, foldedSetIterable iter env x = pure x := by intro _; rfl) :
    wpAny (model prog w) A (eval (.ListComp elt [⟨.Name x px, iter, [], 0⟩] scope pos) env) Q E s := by
  rw [eval_ListComp]
  refine wpAny_comprehension_free (use := none) rfl hs hclos hkind hnames (wpAny_mono h (fun xv s₁ h₁ => ?_) fun _ _ e => e)
  obtain ⟨d, kvs, ep, G, rfl, hh, lo, hd, hdL, F, hsz, gup, helt, hQ⟩ := h₁
  refine wpAny_pyIter_dict lo hd ?_
  have hdlt : d < s₁.heap.objs.size := hd.lt_size
  generalize hH1 : s₁.heap.push { cls := .type "dict_keyiterator", data := .fields #[.ref d, .int 0 0, .int kvs.length 0, .int ep 0] } = H1
  have z1 : H1.objs.size = s₁.heap.objs.size + 1 := by rw [← hH1, Heap.size_push]
  refine wpAny_newObj_type (wpAny_newFunctionEnv hcell (by intro y hy; simp at hy) (fun h₁ hns₁ hsb₁ => ?_) hkind)
  dsimp only at hns₁ hsb₁ ⊢
  generalize hH2 : H1.push { cls := .type "list", dict := none, data := .seq ([] : List Value).toArray } = H2 at hns₁ hsb₁ ⊢
  have z2 : H2.objs.size = s₁.heap.objs.size + 2 := by rw [← hH2, Heap.size_push, z1]
  have old : ∀ (b : Nat) o, b < H2.objs.size → H2.get? b = some o → h₁.get? b = some o := fun (b : Nat) o l e => hsb₁.extBut b o (Nat.ne_of_lt l) (Heap.get?_push_of_some _ e)
  have old1 : ∀ (b : Nat) o, s₁.heap.get? b = some o → h₁.get? b = some o := fun (b : Nat) o e => by
    have l := ltn e
    exact old b o (by omega) (hH2 ▸ Heap.get?_push_of_some _ (hH1 ▸ Heap.get?_push_of_some _ e))
  have hacc : h₁.get? H1.objs.size = some (lst []) := old _ _ (by omega) (hH2 ▸ Heap.get?_push_size _ rfl)
  have hit : h₁.IsKeyIter s₁.heap.objs.size d 0 kvs.length ep := ⟨_, old _ _ (by omega) (hH2 ▸ Heap.get?_push_of_some _ (hH1 ▸ Heap.get?_push_size _ rfl)), rfl, rfl⟩
  have hst₁ : h₁.IsKeyIter s₁.heap.objs.size d 0 kvs.length ep ∧ h₁.DictAt knd d kvs ep := ⟨hit, hd.at' fun o e => old1 _ o e⟩
  have loop : ∀ s₃ : Shared, (∃ tk, s₃ = { s₁ with heap := h₁, toks := tk }) →
      codeAny (model prog w) A (.compLoop (.ListComp elt [⟨.Name x px, iter, [], 0⟩] scope pos) 0 (.ref s₁.heap.objs.size) (.ref H1.objs.size) (compEnvC scope cl H2.objs.size env))
        (compPost (model prog w) A E none Q (.ref H1.objs.size) H2.objs.size) s₃ := by
    rintro s₃ ⟨tk, rfl⟩
    rw [z1] at hacc ⊢
    refine comp_core (cenv := fun C => compEnvC scope cl C env) (Inv := fun h => ∃ m', h.Ns H2.objs.size m') (hi := H2.objs.size + 1) z2 (Nat.lt_succ_self _) (Nat.le_refl _) hh hdL F hdlt hsz gup helt hQ
      (fun h h' hi hk => hi.imp fun m' hn => hn.at' fun o e => hk H2.objs.size o (Nat.le_refl _) (Nat.lt_succ_self _) e) (fun h hi => hi) (fun v s' Q' E' hi hq => ?_) ⟨_, hns₁⟩ old1 hacc hst₁
    obtain ⟨m', hn'⟩ := hi
    refine wpAny_assign_Name (wpAny_storeName_local (lookup_relabel_local hx) hn' (fun h₃ hn₃ hs₃ => ?_) (by simp [compEnvC, relabel, hkind]))
    exact hq h₃ _ ⟨_, hn₃⟩ ⟨_, hn₃, by simp⟩ (fun (b : Nat) o hb e => hs₃.extBut b o (by show b ≠ H2.objs.size; omega) e) hn₃.lt
  exact codeAny_compStart_list (loop _ ⟨_, rfl⟩) ((Walks.dictKeys (prog := prog) (w := w) (knd := knd) hh s₁.heap.objs.size d (Nat.ne_of_lt hdlt) kvs ep).self 0 _ _ _ hst₁ (loop _ ⟨_, rfl⟩))
/-- the same where the target is a cell of the comprehension's own (C + 1), its one cell -/
theorem comp_cell {elt iter : PySem.Expr} {x : Str} {px : Pos} {scope : Scope} {cl : List (Str × Addr)} {pos : Pos} {Q : Value → Shared → Prop}
    (hclos : closureFor scope env = pure cl) (hkind : scope.kind = .function)
    (hcf : ∀ n, cellsFrom n scope.names cl = (x, n) :: cl) (hpc : ∀ h, pushCells h scope.names = h.push { cls := .type "cell", data := .cell none })
    (hnames : ∀ y ∈ scope.names, y.2 = .local → scope.names.lookup y.1 = some .local) (hx : ∀ C c, (compEnvC scope c C env).kindOf x = some .cell)
    (h : wpAny (model prog w) A (eval iter env) (CSrc prog w A h₀ L m knd Q elt (fun C => compEnvC scope ((x, C + 1) :: cl) C env) (fun C v h => ∃ o, h.get? (C + 1) = some o ∧ o.data = .cell (some v)) 2) E s)
    (hs : ∀ x, foldedSetIterable iter env x = pure x := by intro _; rfl) :
    wpAny (model prog w) A (eval (.ListComp elt [⟨.Name x px, iter, [], 0⟩] scope pos) env) Q E s := by
  rw [eval_ListComp]
  refine wpAny_comprehension_free (use := none) rfl hs hclos hkind hnames (wpAny_mono h (fun xv s₁ h₁ => ?_) fun _ _ e => e)
  obtain ⟨d, kvs, ep, G, rfl, hh, lo, hd, hdL, F, hsz, gup, helt, hQ⟩ := h₁
  refine wpAny_pyIter_dict lo hd ?_
  have hdlt : d < s₁.heap.objs.size := hd.lt_size
  generalize hH1 : s₁.heap.push { cls := .type "dict_keyiterator", data := .fields #[.ref d, .int 0 0, .int kvs.length 0, .int ep 0] } = H1
  have z1 : H1.objs.size = s₁.heap.objs.size + 1 := by rw [← hH1, Heap.size_push]
  refine wpAny_newObj_type ?_
  dsimp only
  generalize hH2 : H1.push { cls := .type "list", dict := none, data := .seq ([] : List Value).toArray } = H2
  have z2 : H2.objs.size = s₁.heap.objs.size + 2 := by rw [← hH2, Heap.size_push, z1]
  simp only [newFunctionEnv, Option.isSome_some, if_true]
  refine wpAny_bind (wpAny_alloc ?_)
  refine wpAny_bind (wpAny_layCells _ (fun name kind cells => by cases hkc : kind == NameKind.cell <;> simp [hkc]) _ _ _ _ ?_)
  dsimp only
  rw [hcf, hpc]
  generalize hH3 : H2.push { cls := .type "dict", data := .dict #[] } = H3
  have z3 : H3.objs.size = s₁.heap.objs.size + 3 := by rw [← hH3, Heap.size_push, z2]
  generalize hH4 : H3.push { cls := .type "cell", data := .cell none } = H4
  have z4 : H4.objs.size = s₁.heap.objs.size + 4 := by rw [← hH4, Heap.size_push, z3]
  simp only [List.forIn_nil]
  refine wpAny_bind (wpAny_pure (wpAny_pure ?_))
  have e3 : H3.objs.size = H2.objs.size + 1 := by omega
  rw [e3]
  have up3 : ∀ (b : Nat) o, H2.get? b = some o → H4.get? b = some o := fun b o e => hH4 ▸ Heap.get?_push_of_some _ (hH3 ▸ Heap.get?_push_of_some _ e)
  have old1 : ∀ (b : Nat) o, s₁.heap.get? b = some o → H4.get? b = some o := fun (b : Nat) o e => up3 b o (hH2 ▸ Heap.get?_push_of_some _ (hH1 ▸ Heap.get?_push_of_some _ e))
  have hacc : H4.get? H1.objs.size = some (lst []) := up3 _ _ (hH2 ▸ Heap.get?_push_size _ rfl)
  have hit : H4.IsKeyIter s₁.heap.objs.size d 0 kvs.length ep := ⟨_, up3 _ _ (hH2 ▸ Heap.get?_push_of_some _ (hH1 ▸ Heap.get?_push_size _ rfl)), rfl, rfl⟩
  have hst₁ : H4.IsKeyIter s₁.heap.objs.size d 0 kvs.length ep ∧ H4.DictAt knd d kvs ep := ⟨hit, hd.at' fun o e => old1 _ o e⟩
  have hns₁ : H4.Ns H2.objs.size (fun _ => none) := (Heap.Ns.new H2 (.type "dict")).keeps fun b o e => hH4 ▸ Heap.get?_push_of_some _ (hH3 ▸ e)
  have hce : H4.get? (H2.objs.size + 1) = some { cls := .type "cell", data := .cell none } := by rw [← e3, ← hH4]; exact Heap.get?_push_size _ rfl
  have loop : ∀ s₃ : Shared, (∃ tk, s₃ = { s₁ with heap := H4, toks := tk }) →
      codeAny (model prog w) A (.compLoop (.ListComp elt [⟨.Name x px, iter, [], 0⟩] scope pos) 0 (.ref s₁.heap.objs.size) (.ref H1.objs.size) (compEnvC scope ((x, H2.objs.size + 1) :: cl) H2.objs.size env))
        (compPost (model prog w) A E none Q (.ref H1.objs.size) H2.objs.size) s₃ := by
    rintro s₃ ⟨tk, rfl⟩
    rw [z1] at hacc ⊢
    refine comp_core (cenv := fun C => compEnvC scope ((x, C + 1) :: cl) C env) (Inv := fun h => (∃ m', h.Ns H2.objs.size m') ∧ ∃ v₀, h.IsCell (H2.objs.size + 1) v₀) (hi := H2.objs.size + 2) z2 (by omega) (Nat.le_refl _) hh hdL F hdlt hsz gup helt hQ
      (fun h h' hi hk => ⟨hi.1.imp fun m' hn => hn.at' fun o e => hk H2.objs.size o (Nat.le_refl _) (by omega) e, hi.2.imp fun v₀ ⟨o, ho, hd⟩ => ⟨o, hk _ o (by omega) (by omega) ho, hd⟩⟩) (fun h hi => hi.1) (fun v s' Q' E' hi hq => ?_) ⟨⟨_, hns₁⟩, _, _, hce, rfl⟩ old1 hacc hst₁
    obtain ⟨⟨m', hn'⟩, v₀, hc⟩ := hi
    refine wpAny_assign_Name (wpAny_storeName_cell (by simp [compEnvC, relabel, hkind]) (hx _ _) (c := H2.objs.size + 1) (by simp [compEnvC]) hc fun h₃ hv₃ hs₃ => ?_)
    obtain ⟨o, ho, hd'⟩ := hv₃
    exact hq h₃ _ ⟨⟨m', hn'.at' fun o e => hs₃.extBut _ o (nn (by omega)) e⟩, _, o, ho, hd'⟩ ⟨o, ho, hd'⟩ (fun (b : Nat) o hb e => hs₃.extBut b o (nn (by omega)) e) (ltn ho)
  exact codeAny_compStart_list (loop _ ⟨_, rfl⟩) ((Walks.dictKeys (prog := prog) (w := w) (knd := knd) hh s₁.heap.objs.size d (Nat.ne_of_lt hdlt) kvs ep).self 0 _ _ _ hst₁ (loop _ ⟨_, rfl⟩))
end
end Mine
namespace Mine
open PySem.SeqAt
/-- vs are the texts ks -/
def SV (vs : List Value) (ks : List Str) : Prop := vs.length = ks.length ∧ ∀ (i : Nat) v, vs[i]? = some v → ∃ k t, ks[i]? = some k ∧ v = .str k t
section
variable {prog : Program} {w : World} {K : Type} [DecidableEq K] {knd : KeyKind prog w K} {A : Around} {E : Value → Shared → Prop} {s : Shared} {h₀ : Heap} {L d : Addr} {m : Str → Option Value} {news : List (Addr × Obj)} {o : Obj}
theorem list_keys {kvs : List (Str × Value)} {Q : Value → Shared → Prop} (hh : A.handled = none) (F : Fr h₀ L s.heap m) (N : News h₀ L s.heap news) (hp : (d, o) ∈ news) (hd : o.IsDictOf (strKind prog w) kvs) (lo : (d == sysModules) = false) (hn : kvs.length ≤ sizeLine)
    (h : ∀ (B : Addr) c h' tk vs, SV vs (kvs.map (·.1)) → Fr h₀ L h' m → News h₀ L h' ((B, W.listOf vs.toArray c) :: news) → (∀ q ∈ news, q.1 < B) → Q (.ref B) { s with heap := h', toks := tk }) :
    wpAny (model prog w) A (call (.type "list") [.ref d]) Q E s := by
  obtain ⟨ep, hat⟩ := (kda_dict N hp hd).dictAt
  refine kdl_N (kdl_dict (knd := strKind prog w) (kvs := kvs) (ep := ep) lo) hh F N hat hn fun B c h' tk vs F' N' l1 hl hv => h B c h' tk vs ⟨by simpa using hl, fun i v hi => ?_⟩ F' N' l1
  obtain ⟨k, x, hx, hk⟩ := hv i v hi
  obtain ⟨t, ht⟩ := Value.isStrOf_shape hk
  exact ⟨k, t, by simp [hx], ht⟩
theorem list_view {v : Addr} {kvs : List (Str × Value)} {Q : Value → Shared → Prop} (hh : A.handled = none) (F : Fr h₀ L s.heap m) (N : News h₀ L s.heap news) (hv : (v, ({ cls := .type "dict_keys", data := .fields #[.ref d] } : Obj)) ∈ news) (hp : (d, o) ∈ news) (hd : o.IsDictOf (strKind prog w) kvs) (hn : kvs.length ≤ sizeLine)
    (h : ∀ (B : Addr) c h' tk vs, SV vs (kvs.map (·.1)) → Fr h₀ L h' m → News h₀ L h' ((B, W.listOf vs.toArray c) :: news) → (∀ q ∈ news, q.1 < B) → Q (.ref B) { s with heap := h', toks := tk }) :
    wpAny (model prog w) A (call (.type "list") [.ref v]) Q E s := by
  obtain ⟨ep, hat⟩ := (kda_dict N hp hd).dictAt
  refine kdl_N (kdl_keys (knd := strKind prog w) (kvs := kvs) (ep := ep)) hh F N ⟨⟨_, (N _ hv).1, rfl, rfl⟩, hat⟩ hn fun B c h' tk vs F' N' l1 hl hv => h B c h' tk vs ⟨by simpa using hl, fun i v hi => ?_⟩ F' N' l1
  obtain ⟨k, x, hx, hk⟩ := hv i v hi
  obtain ⟨t, ht⟩ := Value.isStrOf_shape hk
  exact ⟨k, t, by simp [hx], ht⟩
theorem sv_eq {vs us : List Value} {ks : List Str} (h1 : SV vs ks) (h2 : SV us ks) {s : Shared} {A : Around} : vs.toArray.size = us.toArray.size ∧ ∀ j (h1 : j < vs.toArray.size) (h2 : j < us.toArray.size), EqAt A s vs.toArray[j] us.toArray[j] ((fun _ => true) j) := by
  refine ⟨by simp [h1.1, h2.1], fun j a b => ?_⟩
  have a' : j < vs.length := by simpa using a
  have b' : j < us.length := by simpa using b
  obtain ⟨k, t, e, e1⟩ := h1.2 j _ (List.getElem?_eq_getElem a')
  obtain ⟨k', t', e', e2⟩ := h2.2 j _ (List.getElem?_eq_getElem b')
  rw [e] at e'; cases e'
  simp only [List.getElem_toArray, e1, e2]
  have := EqAt.str_str (A := A) (s := s) k t k t'
  rwa [beq_self_eq_true] at this
theorem ne_same {a b : Addr} {vs us : List Value} {ks ls : List Str} {n₁ n₂ : Nat} {Q : Value → Shared → Prop} (N : News h₀ L s.heap news) (ha : (a, W.listOf vs.toArray n₁) ∈ news) (hb : (b, W.listOf us.toArray n₂) ∈ news) (h1 : SV vs ks) (h2 : SV us ls) (hks : ks = ls) (hu : A.units < cLine) (h : Q (.bool false) s) :
    wpAny (model prog w) A (compareOp .NotEq (.ref a) (.ref b)) Q E s := by
  subst hks
  obtain ⟨hz, he⟩ := sv_eq h1 h2 (s := s) (A := A.in1)
  have := RcNeAt.lists (e := fun _ => true) (A := A) (s := s) ⟨_, (N _ ha).1, rfl, _, rfl⟩ ⟨_, (N _ hb).1, rfl, _, rfl⟩ hz hu he
  refine this prog w E Q ?_
  rw [show (List.range vs.toArray.size).all (fun _ => true) = true from List.all_eq_true.mpr fun _ _ => rfl]
  exact h
theorem eq_lens {a b : Addr} {vs us : Array Value} {n₁ n₂ : Nat} {Q : Value → Shared → Prop} (N : News h₀ L s.heap news) (ha : (a, W.listOf vs n₁) ∈ news) (hb : (b, W.listOf us n₂) ∈ news) (hz : (vs.size != us.size) = true) (hu : A.units < cLine) (h : Q (.bool false) s) :
    wpAny (model prog w) A (compareOp .Eq (.ref a) (.ref b)) Q E s := eq_list_lengthsAt ⟨_, (N _ ha).1, rfl, _, rfl⟩ ⟨_, (N _ hb).1, rfl, _, rfl⟩ hz hu h
theorem dict_eq_nil {a b : Addr} {oa ob : Obj} {ka : List (K × Value)} {Q : Value → Shared → Prop} (N : News h₀ L s.heap news) (pa : (a, oa) ∈ news) (pb : (b, ob) ∈ news) (da : oa.IsDictOf knd ka) (db : ob.IsDictOf knd []) (la : (a == sysModules) = false) (lb : (b == sysModules) = false) (hu : A.units < cLine) (e : ka = []) (h : Q (.bool true) s) :
    wpAny (model prog w) A (compareOp .Eq (.ref a) (.ref b)) Q E s := by
  subst e
  exact keq_eq la lb (kda_dict N pa da) (kda_dict N pb db) hu (fun _ => KeqHits.nil) h
theorem dict_eq_cons {a b : Addr} {oa ob : Obj} {ka : List (K × Value)} {Q : Value → Shared → Prop} (N : News h₀ L s.heap news) (pa : (a, oa) ∈ news) (pb : (b, ob) ∈ news) (da : oa.IsDictOf knd ka) (db : ob.IsDictOf knd []) (la : (a == sysModules) = false) (lb : (b == sysModules) = false) (hu : A.units < cLine) (e : ka ≠ []) (h : Q (.bool false) s) :
    wpAny (model prog w) A (compareOp .Eq (.ref a) (.ref b)) Q E s := by
  refine keq_eq la lb (kda_dict N pa da) (kda_dict N pb db) hu (r := true) (fun z => absurd (List.eq_nil_of_length_eq_zero z) e) ?_
  cases ka with
  | nil => exact absurd rfl e
  | cons => exact h
end
end Mine
namespace Mine
section
variable {prog : Program} {w : World} {A₀ : Around} {E : Value → Shared → Prop} {s' : Shared} {h₀ B : Heap} {L fa e t : Addr} {m : Str → Option Value} {cn : Str} {cs : Scope} {ccd : Value} {cl : List (Str × Addr)} {cls c : Value}
  {b₀ : Stmt} {suite : List Stmt} {pos np : Pos} {rest hs : List ExceptHandler} {Q : Flow → Shared → Prop} {K : Frag} {nm : Option Str} {body : List Stmt} {p : Program} {loose : List Str} {mean : ExcName → Option Value} {mg mb : Str → Option Value} {x : Str}
/-- an exception of the class cls is on its way through the frame at L, over what B holds -/
def Fly (h₀ B : Heap) (L : Addr) (env : Env) (m : Str → Option Value) (e : Addr) (cls : Value) (t : Addr) (h : Heap) : Prop := h₀.StaysIn B ∧ Heap.FlyingW B [env] e cls (.ref t) h ∧ Fr h₀ L h m
theorem Fly.slots {env : Env} {h h' : Heap} (x : Fly h₀ B L env m e cls t h) (y : Heap.FlyingW B [env] e cls (.ref t) h') (z : h.UpToSlots h') : Fly h₀ B L env m e cls t h' :=
  ⟨x.1, y, x.2.2.of_stays (fun b o q => y.1 b o (x.1 b o q)) z⟩
theorem fly_look (hA : A₀.frames = some []) (R : Fly h₀ B L (envX cn cs L fa ccd cl) m e cls t s'.heap)
    (k : ∀ h', Fly h₀ B L (envX cn cs L fa ccd cl) m e cls t h' → wpAny (model prog w) (A₀.deeper (envX cn cs L fa ccd cl)) (handleBy (.ref e) (envX cn cs L fa ccd cl) hs) Q E { s' with heap := h' }) :
    wpAny (model prog w) (A₀.deeper (envX cn cs L fa ccd cl)) (noteFrame (.ref e) (envX cn cs L fa ccd cl))
      (fun _ s₂ => wpAny (model prog w) (A₀.deeper (envX cn cs L fa ccd cl)) (setFlight (.ref e) none) (fun _ s₃ =>
        wpAny (model prog w) (A₀.deeper (envX cn cs L fa ccd cl)) (handleBy (.ref e) (envX cn cs L fa ccd cl) hs) Q E s₃) E s₂) E s' := by
  have R' := R
  obtain ⟨hB, hfl, F⟩ := R'
  refine wpAny_looks_onW (Around.frames_deeper hA) rfl hfl fun h₄ hheld₄ hsm₄ => ?_
  refine wpAny_landsW hheld₄ fun h₅ hheld hsm₅' => ?_
  exact k h₅ (R.slots hheld (hsm₄.trans hsm₅'))
theorem fly_ty {M : Model} {env : Env} {h : Heap} (R : Fly h₀ B L env m e cls t h) : Looks M h (typeOf (.ref e)) cls := by
  obtain ⟨ob, hob, hc⟩ := R.2.1.there
  subst hc
  exact (Looks.ld hob).andThen .now
theorem fly_pass (R : Fly h₀ B L (envX cn cs L fa ccd cl) m e cls t s'.heap) (X : K.In h₀) (T : Top p loose mean mg mb h₀) (en : nsIn K mainGlobals x = some (some c)) (he : exmOne K cls c = some false)
    (k : ∀ h', Fly h₀ B L (envX cn cs L fa ccd cl) m e cls t h' → wpAny (model prog w) (A₀.deeper (envX cn cs L fa ccd cl)) (handleBy (.ref e) (envX cn cs L fa ccd cl) rest) Q E { s' with heap := h' })
    (hk : cs.kind = .function := by rfl) (hx : (envX cn cs L fa ccd cl).kindOf x = some .globalImplicit := by rfl) (hd : (x == ("__debug__" : Str)) = false := by decide) :
    wpAny (model prog w) (A₀.deeper (envX cn cs L fa ccd cl)) (handleBy (.ref e) (envX cn cs L fa ccd cl) (.ExceptHandler (some (.Name x np)) nm body pos :: rest)) Q E s' := by
  refine wpAny_handleBy_cons (codeAny_handlers_test (nameX_K R.2.2 X (topRead_of T) en ?_ hk hx hd)) (by intro q; cases q)
  refine (exm_one (X.keeps R.2.2.keep) (fly_ty R) he).here ?_
  exact k _ R
theorem fly_hit (R : Fly h₀ B L (envX cn cs L fa ccd cl) m e cls t s'.heap) (X : K.In h₀) (T : Top p loose mean mg mb h₀) (en : nsIn K mainGlobals x = some (some c)) (he : exmOne K cls c = some true)
    (k : ∀ h' E', Fly h₀ B L (envX cn cs L fa ccd cl) m e cls t h' → Fr h₀ L h' m → wpAny (model prog w) ((A₀.deeper (envX cn cs L fa ccd cl)).mark (some (.ref e))) (execs (b₀ :: suite) (envX cn cs L fa ccd cl)) Q E' { s' with heap := h' })
    (hk : cs.kind = .function := by rfl) (hx : (envX cn cs L fa ccd cl).kindOf x = some .globalImplicit := by rfl) (hd : (x == ("__debug__" : Str)) = false := by decide) :
    wpAny (model prog w) (A₀.deeper (envX cn cs L fa ccd cl)) (handleBy (.ref e) (envX cn cs L fa ccd cl) (.ExceptHandler (some (.Name x np)) none (b₀ :: suite) pos :: rest)) Q E s' := by
  refine wpAny_handleBy_cons (codeAny_handlers_test (nameX_K R.2.2 X (topRead_of T) en ?_ hk hx hd)) (by intro q; cases q)
  refine (exm_one (X.keeps R.2.2.keep) (fly_ty R) he).here ?_
  refine codeAny_handlers_suite ?_
  refine lands_againW R.2.1 fun h₆ hfl₆ hsm₆ => ?_
  have R₆ := R.slots hfl₆ hsm₆
  exact k h₆ _ R₆ R₆.2.2
end
/-- what a call does, for every state that shows the ledger led -/
def Hook (w : World) (A : Around) (h₀ : Heap) (L : Addr) (f : Value) (pos : List Value) (kw : List (Str × Value)) (led : List (Addr × Obj)) (Ok : (Str → Option Value) → Shared → Value → Shared → Prop) (Rz : (Str → Option Value) → Shared → Value → Shared → Prop) : Prop :=
  ∀ (s : Shared) (m : Str → Option Value), Fr h₀ L s.heap m → News h₀ L s.heap led → wpAny (model prg w) A (call f pos kw) (Ok m s) (Rz m s) s
theorem hook_use {w : World} {A : Around} {h₀ : Heap} {L : Addr} {f : Value} {pos : List Value} {kw : List (Str × Value)} {led news : List (Addr × Obj)} {Ok Rz : (Str → Option Value) → Shared → Value → Shared → Prop} {s : Shared} {m : Str → Option Value} {Q E : Value → Shared → Prop}
    (H : Hook w A h₀ L f pos kw led Ok Rz) (F : Fr h₀ L s.heap m) (N : News h₀ L s.heap news) (sub : ∀ p ∈ led, p ∈ news) (k1 : ∀ v s', Ok m s v s' → Q v s') (k2 : ∀ e s', Rz m s e s' → E e s') :
    wpAny (model prg w) A (call f pos kw) Q E s := wpAny_mono (H s m F fun p hp => N p (sub p hp)) k1 k2
theorem rz_fly {h₀ : Heap} {fa L C x : Addr} {ox : Obj} {m : Str → Option Value} {P : Heap → Prop} {s s' : Shared} {e : Value} (R : Rz1 h₀ fa L m C x ox P s e s') :
    ∃ a t B h' tk, e = .ref a ∧ s' = { s with heap := h', toks := tk } ∧ Fly h₀ B L (envLaw fa L) m a (.ref C) t h' ∧ B.get? x = some ox ∧ P B := by
  obtain ⟨a, t, vs, h', tk, ns, rfl, rfl, F, ⟨⟨B, hB, hn, hfl, hnew⟩, htup⟩, hm, hp⟩ := R
  exact ⟨a, t, B, h', tk, rfl, rfl, ⟨hB, hfl, F⟩, (hn _ hm).1, hp B fun p hpm => (hn p hpm).1⟩
/-- an exception's word that lasts: two objects and what they are -/
def PQ (a1 a2 : Addr) (Qe : Obj → Obj → Prop) (h : Heap) : Prop := ∃ o1 o2, h.get? a1 = some o1 ∧ h.get? a2 = some o2 ∧ Qe o1 o2
def Mine2 (h₀ : Heap) (L x a1 a2 : Addr) : Prop := (x ≠ L ∧ h₀.get? x = none) ∧ (a1 ≠ L ∧ h₀.get? a1 = none) ∧ a2 ≠ L ∧ h₀.get? a2 = none
theorem news_x {h₀ h' : Heap} {L x a1 a2 : Addr} {ox : Obj} (g : h'.get? x = some ox) (xl : Mine2 h₀ L x a1 a2) : News h₀ L h' [(x, ox)] := fun p hp => by
  rw [List.mem_singleton.mp hp]; exact ⟨g, xl.1⟩
theorem news_fly {h₀ B h' : Heap} {L x a1 a2 e t : Addr} {env : Env} {m : Str → Option Value} {cls : Value} {ox o1 o2 : Obj} (R : Fly h₀ B L env m e cls t h') (xl : Mine2 h₀ L x a1 a2) (g : B.get? x = some ox) (g1 : B.get? a1 = some o1) (g2 : B.get? a2 = some o2) : News h₀ L h' [(x, ox), (a1, o1), (a2, o2)] := fun p hp => by
  rcases List.mem_cons.mp hp with rfl | hp
  · exact ⟨R.2.1.1 _ _ g, xl.1⟩
  rcases List.mem_cons.mp hp with rfl | hp
  · exact ⟨R.2.1.1 _ _ g1, xl.2.1⟩
  · rw [List.mem_singleton.mp hp]; exact ⟨R.2.1.1 _ _ g2, xl.2.2⟩
end Mine
namespace Mine
/-- a statement's end, with a probe, and with all but D kept -/
def St1 {α : Type} (h₀ : Heap) (L : Addr) (x : Addr) (ox : Obj) (P : α → (Str → Option Value) → Heap → Prop) (s : Shared) (a : α) (s' : Shared) : Prop :=
  ∃ h' tk m', s' = { s with heap := h', toks := tk } ∧ Fr h₀ L h' m' ∧ h'.get? x = some ox ∧ P a m' h'
def StOut {α : Type} (h₀ : Heap) (L : Addr) (D : List Addr) (P : α → (Str → Option Value) → Heap → Prop) (s : Shared) (a : α) (s' : Shared) : Prop :=
  ∃ h' tk m', s' = { s with heap := h', toks := tk } ∧ Fr h₀ L h' m' ∧ Keeps L D s.heap h' ∧ P a m' h'
theorem st1_intro {α : Type} {h₀ : Heap} {L : Addr} {m : Str → Option Value} {x : Addr} {ox : Obj} {P : α → (Str → Option Value) → Heap → Prop} {s : Shared} {a : α} {h' : Heap} {tk : Nat} {ns : List (Addr × Obj)} (F : Fr h₀ L h' m) (N : News h₀ L h' ns) (hm : (x, ox) ∈ ns) (hp : P a m h') :
    St1 h₀ L x ox P s a { heap := h', gens := s.gens, drawn := s.drawn, toks := tk, os := s.os } := ⟨h', tk, m, rfl, F, N.get hm, hp⟩
theorem lift_keep {α : Type} {prog : Program} {w : World} {A : Around} {q : Sem α} {h₀ : Heap} {L : Addr} {m : Str → Option Value} {D : List Addr} {P : α → (Str → Option Value) → Heap → Prop} {E : Value → Shared → Prop} {s : Shared} (F : Fr h₀ L s.heap m)
    {x₀ : Addr} {ox₀ : Obj} (g0 : s.heap.get? x₀ = some ox₀) (n0 : h₀.get? x₀ = none) (l0 : x₀ ≠ L) (d0 : x₀ ∉ D)
    (H : ∀ x ox, s.heap.get? x = some ox → h₀.get? x = none → x ≠ L → x ∉ D → wpAny (model prog w) A q (St1 h₀ L x ox P s) E s) :
    wpAny (model prog w) A q (StOut h₀ L D P s) E s := by
  let ι := { p : Addr × Obj // s.heap.get? p.1 = some p.2 ∧ h₀.get? p.1 = none ∧ p.1 ≠ L ∧ p.1 ∉ D }
  let i₀ : ι := ⟨(x₀, ox₀), g0, n0, l0, d0⟩
  refine wpAny_mono (wpAny_forall (ι := ι) i₀ (Q := fun i => St1 h₀ L i.1.1 i.1.2 P s) (E := fun _ => E) fun i => H _ _ i.2.1 i.2.2.1 i.2.2.2.1 i.2.2.2.2) (fun v s' h => ?_) (fun e s' h => h i₀)
  obtain ⟨h', tk, m', rfl, F', _, hp⟩ := h i₀
  refine ⟨h', tk, m', rfl, F', fun x o hl hd ho => ?_, hp⟩
  cases q : h₀.get? x with
  | some o' =>
    have e1 := F.keep x o' q
    rw [ho] at e1; cases e1
    exact F'.keep x o q
  | none =>
    obtain ⟨h'', tk', m'', e, _, g, _⟩ := h ⟨(x, o), ho, q, hl, hd⟩
    rw [shared_heap e]; exact g
theorem not_one {x a : Nat} (h : x ∉ [a]) : x ≠ a := by simpa using h
theorem news_two {h₀ h : Heap} {L a x : Addr} {o ox : Obj} (N : News h₀ L h [(a, o)]) (g : h.get? x = some ox) (n : h₀.get? x = none) (l : x ≠ L) : News h₀ L h [(a, o), (x, ox)] := fun p hp => by
  rcases List.mem_cons.mp hp with rfl | hp
  · exact N _ (.head _)
  · rw [List.mem_singleton.mp hp]; exact ⟨g, l, n⟩
section
variable {prog : Program} {w : World} {A : Around} {E : Value → Shared → Prop} {s : Shared} {h₀ : Heap} {m : Str → Option Value} {env : Env} {news : List (Addr × Obj)} {o : Obj} {gf : Obj → List (Addr × Obj)} {TM LI : Nat} {kT : List (Str × Value)} {vs : List Value} {c : Nat}
/-- a loop over the list of a dict's keys, whose body takes the key out of the dict -/
theorem for_del {xn ln : Str} {px lp pos : Pos} {body : List Stmt} {Q : Flow → Shared → Prop}
    (hh : A.handled = none) (hx : env.kindOf xn = some .local) (hp : (env.scope.kind == .class || (env.scope.kind == .module && env.locals != env.globals)) = false)
    (hev : ∀ E', wpAny (model prog w) A (eval (.Name ln lp) env) (fun v s₁ => v = .ref LI ∧ s₁ = s) E' s)
    (F : Fr h₀ env.locals s.heap m) (N : News h₀ env.locals s.heap news) (_hmem : (TM, o) ∈ news) (U : UpdF TM o news gf) (hd : o.IsDictOf (strKind prog w) kT) (hLI : (LI, W.listOf vs.toArray c) ∈ news) (hne : LI ≠ TM) (sv : SV vs (kT.map (·.1))) (nd : (kT.map (·.1)).Nodup) (hsz : kT.length ≤ 1000)
    (HB : ∀ (s' : Shared) o' kvs k t v E', (∃ h tk, s' = { s with heap := h, toks := tk }) → (s'.heap.get? LI = some (W.listOf vs.toArray c) ∧ h₀.get? LI = none ∧ LI ≠ env.locals ∧ LI ∉ [TM]) → Fr h₀ env.locals s'.heap (fun y => if y = xn then some (.str k t) else m y) → News h₀ env.locals s'.heap [(TM, o')] → o'.IsDictOf (strKind prog w) kvs → valueAt kvs k = some v → kvs.length ≤ 1000 →
      wpAny (model prog w) A (execs body env) (StOut h₀ env.locals [TM] (fun f m' h' => f = .next ∧ (m' = fun y => if y = xn then some (.str k t) else m y) ∧ ∃ o'', h'.get? TM = some o'' ∧ o''.IsDictOf (strKind prog w) (without kvs k)) s') E' s')
    (hQ : ∀ h' tk o' z, Fr h₀ env.locals h' (fun y => if y = xn then z else m y) → News h₀ env.locals h' (gf o') → o'.IsDictOf (strKind prog w) [] → Q .next { s with heap := h', toks := tk }) :
    wpAny (model prog w) A (exec (.For (.Name xn px) (.Name ln lp) body [] pos) env) Q E s := by
  refine wpAny_For (wpAny_mono (hev _) (fun v s₁ hv => ?_) fun _ _ e => e)
  obtain ⟨rfl, rfl⟩ := hv
  obtain ⟨pre, post, rfl, hg, ha, hb⟩ := U.split
  have hax := N _ hLI
  have hTM := N (TM, o) (List.mem_append_right _ (.head _))
  have hl : s₁.heap.IsList LI vs.toArray := ⟨_, hax.1, rfl, _, rfl⟩
  have hLlt : (env.locals : Nat) < s₁.heap.objs.size := F.ns.lt
  have hlt : (LI : Nat) < s₁.heap.objs.size := ltn hax.1
  have hTlt : (TM : Nat) < s₁.heap.objs.size := ltn hTM.1
  have hTL : TM ≠ env.locals := hTM.2.1
  have hIL : LI ≠ env.locals := hax.2.1
  have hT0 : h₀.get? TM = none := hTM.2.2
  have W := Walks.list (prog := prog) (w := w) hh s₁.heap.objs.size LI (Nat.ne_of_lt hlt) vs.toArray
  have fresh : ∀ (a : Nat), s₁.heap.objs.size ≤ a → h₀.get? a = none := fun a ha => by
    cases e : h₀.get? a with
    | none => rfl
    | some o' => exact absurd (ltn (F.keep a o' e)) (Nat.not_lt.mpr ha)
  refine wpAny_pyIter_list hl ?_
  refine codeAny_forLoop
    (fun n s' => ∃ h' tk i o' z, s' = { s₁ with heap := h', toks := tk } ∧ i ≤ kT.length ∧ n = kT.length + 1 - i ∧ (h'.IsListIter s₁.heap.objs.size LI i ∧ h'.IsList LI vs.toArray) ∧ Fr h₀ env.locals h' (fun y => if y = xn then z else m y) ∧
      h'.get? TM = some o' ∧ o'.IsDictOf (strKind prog w) (kT.drop i) ∧ ∀ (b : Nat) o, b ≠ env.locals → b ≠ TM → s₁.heap.get? b = some o → h'.get? b = some o) ?_ (kT.length + 1)
    ⟨_, s₁.toks, 0, o, m xn, rfl, Nat.zero_le _, rfl, ⟨⟨_, Heap.get?_push_size _ rfl, rfl, rfl⟩, hl.push _⟩, ?_, Heap.get?_push_of_some _ hTM.1, hd, fun b o _ _ e => Heap.get?_push_of_some _ e⟩
  · rintro n s' ⟨h', tk, i, o', z, rfl, hi, rfl, hst, F', hT', hd', kp⟩
    have F'ex := F'.ns.lt
    by_cases hil : i < kT.length
    · refine W.item i _ _ _ (by simpa [sv.1] using hil) hst fun v h₂ tk₂ hP hst₂ hk₂ => ?_
      have hP' : vs[i]? = some v := by simpa using hP
      obtain ⟨k, t, hk, rfl⟩ := sv.2 i v hP'
      have h12 : ∀ (b : Nat) o, b ≠ s₁.heap.objs.size → h'.get? b = some o → h₂.get? b = some o := fun b o n e => hk₂ b o (by simpa using n) e
      have F₂ : Fr h₀ env.locals h₂ (fun y => if y = xn then z else m y) := ⟨F'.ns.at' fun o e => h12 env.locals o (Nat.ne_of_lt hLlt) e, fun (b : Nat) o e => h12 b o (fun q => by subst q; rw [fresh _ (Nat.le_refl _)] at e; cases e) (F'.keep b o e), F'.above⟩
      refine wpAny_assign_Name (wpAny_storeName_local hx F₂.ns (fun h₃ hn₃ hs₃ => ?_) hp)
      have F₃ := F₂.set hn₃ hs₃
      have e₃ : (fun y => if y = xn then some (Value.str k t) else if y = xn then z else m y) = fun y => if y = xn then some (Value.str k t) else m y := by
        funext y; by_cases q : y = xn <;> simp [q]
      rw [e₃] at F₃
      have h23 : ∀ (b : Nat) o, b ≠ env.locals → h₂.get? b = some o → h₃.get? b = some o := fun b o n e => hs₃.extBut b o n e
      have hT₃ : h₃.get? TM = some o' := h23 _ _ hTL (h12 _ _ (by omega) hT')
      obtain ⟨xv, hxv⟩ : ∃ xv, kT[i]? = some (k, xv) := by
        have : (kT.map (·.1))[i]? = some k := hk
        rw [List.getElem?_map] at this
        obtain ⟨p, hp, rfl⟩ := Option.map_eq_some_iff.mp this
        exact ⟨p.2, hp⟩
      have hdrop : kT.drop i = (k, xv) :: kT.drop (i + 1) := by
        rw [List.drop_eq_getElem_cons hil]
        congr 1
        have := List.getElem?_eq_getElem hil
        rw [this] at hxv; exact Option.some.inj hxv
      have hval : valueAt (kT.drop i) k = some xv := by rw [hdrop]; simp [valueAt]
      have hwo : without (kT.drop i) k = kT.drop (i + 1) := by
        rw [hdrop]
        have hno : ∀ p ∈ kT.drop (i + 1), p.1 ≠ k := fun p hp q => by
          have hnd : ((kT.drop i).map (·.1)).Nodup := by rw [List.map_drop]; exact nd.sublist (List.drop_sublist _ _)
          rw [hdrop, List.map_cons, List.nodup_cons] at hnd
          exact hnd.1 (List.mem_map.mpr ⟨p, hp, q⟩)
        unfold without
        rw [List.filter_cons]
        simp only [ne_eq, not_true_eq_false, decide_false, Bool.false_eq_true, if_false]
        exact List.filter_eq_self.mpr fun p hp => by simpa using hno p hp
      refine wpAny_mono (HB _ o' (kT.drop i) k t xv _ ⟨h₃, _, rfl⟩ ⟨h23 _ _ hIL (h12 _ _ (by omega) (kp _ _ hIL hne hax.1)), hax.2.2, hIL, by simpa using hne⟩ F₃ (fun p hp => ?_) hd' hval (Nat.le_trans (by simp) hsz)) (fun f s₄ h₄ => ?_) fun _ _ e => e
      · rw [List.mem_singleton.mp hp]; exact ⟨hT₃, hTL, hT0⟩
      · obtain ⟨h₄, tk₄, m', rfl, F₄, kp₄, rfl, rfl, o'', hT₄, hd₄⟩ := h₄
        rw [hwo] at hd₄
        dsimp only at kp₄
        have h34 : ∀ (b : Nat) o, b ≠ env.locals → b ≠ TM → h₃.get? b = some o → h₄.get? b = some o := fun b o n1 n2 e => kp₄ b o n1 (by simpa using n2) e
        have h24 : ∀ (b : Nat) o, b ≠ env.locals → b ≠ TM → h₂.get? b = some o → h₄.get? b = some o := fun b o n1 n2 e => h34 b o n1 n2 (h23 b o n1 e)
        refine ⟨kT.length + 1 - (i + 1), by omega, h₄, tk₄, i + 1, o'', _, rfl, hil, rfl, W.frame _ _ _ hst₂ fun (b : Nat) hb o e => ?_, F₄, hT₄, hd₄, fun b o n1 n2 e => h24 b o n1 n2 (h12 b o (by have := ltn e; omega) (kp b o n1 n2 e))⟩
        have hb' : b = s₁.heap.objs.size ∨ b = LI := by simpa using hb
        have hb1 : b ≠ env.locals := by
          rcases hb' with rfl | rfl
          · exact Nat.ne_of_gt hLlt
          · exact hIL
        exact h24 b o hb1 (by omega) e
    · obtain rfl : i = kT.length := Nat.le_antisymm hi (Nat.not_lt.mp hil)
      refine W.done _ _ _ (by simpa [sv.1] using hst) fun h₂ tk₂ hk₂ => wpAny_execs_nil ?_
      have h12 : ∀ (b : Nat) o, b ≠ s₁.heap.objs.size → h'.get? b = some o → h₂.get? b = some o := fun b o n e => hk₂ b o (by simpa using n) e
      rw [List.drop_length] at hd'
      refine hQ h₂ tk₂ o' z ⟨F'.ns.at' fun o e => h12 env.locals o (Nat.ne_of_lt hLlt) e, fun (b : Nat) o e => h12 b o (fun q => by subst q; rw [fresh _ (Nat.le_refl _)] at e; cases e) (F'.keep b o e), F'.above⟩ ?_ hd'
      rw [hg]
      intro p hp
      have hold : ∀ q ∈ pre ++ (TM, o) :: post, q.1 ≠ TM → h₂.get? q.1 = some q.2 := fun q hq hn => h12 q.1 _ (Nat.ne_of_lt (ltn (N q hq).1)) (kp q.1 _ (N q hq).2.1 hn (N q hq).1)
      rcases List.mem_append.mp hp with hp | hp
      · exact ⟨hold p (List.mem_append_left _ hp) (ha p hp), (N p (List.mem_append_left _ hp)).2⟩
      · rcases List.mem_cons.mp hp with rfl | hp
        · exact ⟨h12 _ _ (by omega) hT', hTM.2⟩
        · exact ⟨hold p (List.mem_append_right _ (.tail _ hp)) (hb p hp), (N p (List.mem_append_right _ (.tail _ hp))).2⟩
  · have e₀ : (fun y => if y = xn then m xn else m y) = m := by funext y; by_cases q : y = xn <;> simp [q]
    rw [e₀]; exact F.push _
end
end Mine
namespace Mine
/-- the same but for the heap and the count of tokens -/
def Like (s s' : Shared) : Prop := ∃ h tk, s' = { s with heap := h, toks := tk }
theorem Like.refl (s : Shared) : Like s s := ⟨s.heap, s.toks, rfl⟩
theorem Like.trans {s s' s'' : Shared} (x : Like s s') (y : Like s' s'') : Like s s'' := by
  obtain ⟨h, tk, rfl⟩ := x; obtain ⟨h', tk', rfl⟩ := y; exact ⟨h', tk', rfl⟩
theorem Like.mk' (s : Shared) (h : Heap) (tk : Nat) : Like s { s with heap := h, toks := tk } := ⟨h, tk, rfl⟩
/-- an old object that stands outside the written part, the frame and D -/
def Old (h₀ : Heap) (L : Nat) (D : List Nat) (h : Heap) (x : Nat) : Prop := (∃ o, h.get? x = some o) ∧ h₀.get? x = none ∧ x ≠ L ∧ x ∉ D
def StX {α : Type} (h₀ : Heap) (L : Nat) (D : List Nat) (P : Nat → α → (Str → Option Value) → Heap → Prop) (s : Shared) (a : α) (s' : Shared) : Prop :=
  ∃ m', Like s s' ∧ Fr h₀ L s'.heap m' ∧ Keeps L D s.heap s'.heap ∧ ∀ x, Old h₀ L D s.heap x → P x a m' s'.heap
abbrev OldI (h₀ : Heap) (L : Nat) (D : List Nat) (h : Heap) : Type := { p : Nat × Obj // h.get? p.1 = some p.2 ∧ h₀.get? p.1 = none ∧ p.1 ≠ L ∧ p.1 ∉ D }
theorem stx_of {α : Type} {h₀ : Heap} {L : Nat} {m : Str → Option Value} {D : List Nat} {P : Nat → α → (Str → Option Value) → Heap → Prop} {s : Shared} (F : Fr h₀ L s.heap m) (i₀ : OldI h₀ L D s.heap) {v : α} {s' : Shared}
    (h : ∀ i : OldI h₀ L D s.heap, St1 h₀ L i.1.1 i.1.2 (P i.1.1) s v s') : StX h₀ L D P s v s' := by
  obtain ⟨h', tk, m', rfl, F', _, hp⟩ := h i₀
  refine ⟨m', ⟨h', tk, rfl⟩, F', fun x o hl hd ho => ?_, fun x hx => ?_⟩
  · cases q : h₀.get? x with
    | some o' =>
      have e1 := F.keep x o' q
      rw [ho] at e1; cases e1
      exact F'.keep x o q
    | none =>
      obtain ⟨h'', tk', m'', e, _, g, _⟩ := h ⟨(x, o), ho, q, hl, hd⟩
      rw [shared_heap e]; exact g
  · obtain ⟨⟨o, ho⟩, q, hl, hd⟩ := hx
    obtain ⟨h'', tk', m'', e, F'', g, hq⟩ := h ⟨(x, o), ho, q, hl, hd⟩
    have e2 : h' = h'' := shared_heap e
    subst e2
    have e3 : m' = m'' := by
      obtain ⟨o1, es1, ep1, a1, b1, c1, f1⟩ := F'.ns
      obtain ⟨o2, es2, ep2, a2, b2, c2, f2⟩ := F''.ns
      rw [a1] at a2; cases a2
      rw [b1] at b2; cases b2
      funext y
      rw [← f1, ← f2]
    subst e3
    exact hq
theorem lift_x {α : Type} {prog : Program} {w : World} {A : Around} {q : Sem α} {h₀ : Heap} {L : Nat} {m : Str → Option Value} {D : List Nat} {P : Nat → α → (Str → Option Value) → Heap → Prop} {E : Value → Shared → Prop} {s : Shared} (F : Fr h₀ L s.heap m)
    {x₀ : Nat} (i0 : Old h₀ L D s.heap x₀)
    (H : ∀ x ox, s.heap.get? x = some ox → h₀.get? x = none → x ≠ L → x ∉ D → wpAny (model prog w) A q (St1 h₀ L x ox (P x) s) E s) :
    wpAny (model prog w) A q (StX h₀ L D P s) E s := by
  obtain ⟨⟨ox₀, g0⟩, n0, l0, d0⟩ := i0
  let i₀ : OldI h₀ L D s.heap := ⟨(x₀, ox₀), g0, n0, l0, d0⟩
  exact wpAny_mono (wpAny_forall (ι := OldI h₀ L D s.heap) i₀ (Q := fun i => St1 h₀ L i.1.1 i.1.2 (P i.1.1) s) (E := fun _ => E) fun i => H _ _ i.2.1 i.2.2.1 i.2.2.2.1 i.2.2.2.2) (fun v s' h => stx_of F i₀ h) (fun e s' h => h i₀)
theorem lift_x2 {α β : Type} {prog : Program} {w : World} {A : Around} {q : Sem α} {r : α → Sem β} {h₀ : Heap} {L : Nat} {m : Str → Option Value} {D : List Nat} {P : Nat → β → (Str → Option Value) → Heap → Prop} {E : Value → Shared → Prop} {s : Shared} (F : Fr h₀ L s.heap m)
    {x₀ : Nat} (i0 : Old h₀ L D s.heap x₀)
    (H : ∀ x ox, s.heap.get? x = some ox → h₀.get? x = none → x ≠ L → x ∉ D → wpAny (model prog w) A q (fun a s₂ => wpAny (model prog w) A (r a) (St1 h₀ L x ox (P x) s) E s₂) E s) :
    wpAny (model prog w) A q (fun a s₂ => wpAny (model prog w) A (r a) (StX h₀ L D P s) E s₂) E s := by
  obtain ⟨⟨ox₀, g0⟩, n0, l0, d0⟩ := i0
  let i₀ : OldI h₀ L D s.heap := ⟨(x₀, ox₀), g0, n0, l0, d0⟩
  exact wpAny_mono (wpAny_forall (ι := OldI h₀ L D s.heap) i₀ (Q := fun i a s₂ => wpAny (model prog w) A (r a) (St1 h₀ L i.1.1 i.1.2 (P i.1.1) s) E s₂) (E := fun _ => E) fun i => H _ _ i.2.1 i.2.2.1 i.2.2.2.1 i.2.2.2.2)
    (fun a s₂ h => wpAny_mono (wpAny_forall (ι := OldI h₀ L D s.heap) i₀ (Q := fun i => St1 h₀ L i.1.1 i.1.2 (P i.1.1) s) (E := fun _ => E) h) (fun v s' h => stx_of F i₀ h) (fun e s' h => h i₀)) (fun e s' h => h i₀)
/-- a statement, then the rest -/
theorem seq {prog : Program} {w : World} {A : Around} {h₀ : Heap} {L : Nat} {D : List Nat} {P : Nat → Flow → (Str → Option Value) → Heap → Prop} {Q : Flow → Shared → Prop} {E : Value → Shared → Prop} {s : Shared} {st : Stmt} {rest : List Stmt} {env : Env} {x₀ : Nat}
    (H : wpAny (model prog w) A (exec st env) (StX h₀ L D P s) E s) (i0 : Old h₀ L D s.heap x₀) (hP : ∀ x f m' h', P x f m' h' → f = .next)
    (k : ∀ s' m', Like s s' → Fr h₀ L s'.heap m' → Keeps L D s.heap s'.heap → (∀ x, Old h₀ L D s.heap x → P x .next m' s'.heap) → wpAny (model prog w) A (execs rest env) Q E s') :
    wpAny (model prog w) A (execs (st :: rest) env) Q E s := by
  refine wpAny_execs_cons (wpAny_mono H (fun f s' h => ?_) fun _ _ e => e)
  obtain ⟨m', hl, F', K', hp⟩ := h
  obtain rfl := hP _ _ _ _ (hp _ i0)
  exact k s' m' hl F' K' hp
theorem news_c {h₀ h : Heap} {L a : Nat} {o : Obj} {m : Str → Option Value} {r : List (Addr × Obj)} (F : Fr h₀ L h m) (g : h.get? a = some o) (l : L < a) (N : News h₀ L h r) : News h₀ L h ((a, o) :: r) := fun p hp => by
  rcases List.mem_cons.mp hp with rfl | hp
  · refine ⟨g, Nat.ne_of_gt l, ?_⟩
    cases e : h₀.get? a with
    | none => rfl
    | some o' =>
      have h1 : a < h₀.objs.size := Heap.lt_size e
      have h2 : h₀.objs.size ≤ L := F.above
      omega
  · exact N _ hp
theorem news_1 {h₀ h : Heap} {L x : Nat} {ox : Obj} (g : h.get? x = some ox) (n : h₀.get? x = none) (l : x ≠ L) : News h₀ L h [(x, ox)] := fun p hp => by
  rw [List.mem_singleton.mp hp]; exact ⟨g, l, n⟩
theorem old_of {h₀ h : Heap} {L a : Nat} {o : Obj} {m : Str → Option Value} {D : List Nat} (F : Fr h₀ L h m) (g : h.get? a = some o) (l : L < a) (d : a ∉ D) : Old h₀ L D h a := by
  refine ⟨⟨_, g⟩, ?_, Nat.ne_of_gt l, d⟩
  cases e : h₀.get? a with
  | none => rfl
  | some o' =>
    have h1 : a < h₀.objs.size := Heap.lt_size e
    have h2 : h₀.objs.size ≤ L := F.above
    omega
/-- a loop over what an iterator gives, whose body goes on -/
theorem for_walks {prog : Program} {w : World} {A : Around} {I : Nat} {fp wr : List Addr} {n : Nat} {Pv : Nat → Value → Prop} {St : Nat → Heap → Prop} {target : PySem.Expr} {body : List Stmt} {env : Env} {R : Result → Shared → Prop} {s₀ : Shared} (W : Walks prog w A I fp wr n Pv St) (J : Nat → Heap → (Prop))
    (up : ∀ i h h', J i h → (∀ (b : Nat) o, b ∉ wr → h.get? b = some o → h'.get? b = some o) → J i h')
    (step : ∀ i v s E, Like s₀ s → i < n → Pv i v → St (i + 1) s.heap → J i s.heap → wpAny (model prog w) A (assign target env v) (fun _ s₂ => wpAny (model prog w) A (execs body env) (fun f s₃ => f = .next ∧ Like s₀ s₃ ∧ St (i + 1) s₃.heap ∧ J (i + 1) s₃.heap) E s₂) E s)
    (fin : ∀ s, Like s₀ s → J n s.heap → R (.ok .next) s)
    {i : Nat} {s : Shared} (l : Like s₀ s) (hi : i ≤ n) (st : St i s.heap) (j : J i s.heap) (ht : ∀ v, letOwnedTupleGo target (.ref I) v = pure () := by intro _; rfl) :
    codeAny (model prog w) A (.forLoop target (.ref I) body [] env) R s := by
  refine codeAny_forLoop (fun k s' => ∃ i, i ≤ n ∧ k = n + 1 - i ∧ Like s₀ s' ∧ St i s'.heap ∧ J i s'.heap) ?_ (n + 1 - i) ⟨i, hi, rfl, l, st, j⟩ ht
  rintro k s' ⟨i, hi, rfl, l, st, j⟩
  by_cases hlt : i < n
  · refine W.item i _ _ _ hlt st fun v h' tk hv st' kp => ?_
    have l' : Like s₀ { s' with heap := h', toks := tk } := l.trans (Like.mk' _ _ _)
    refine wpAny_mono (step i v _ _ l' hlt hv st' (up _ _ _ j kp)) (fun _ s₂ h₂ => wpAny_mono h₂ (fun f s₃ h₃ => ?_) fun _ _ e => e) fun _ _ e => e
    obtain ⟨rfl, l₃, st₃, j₃⟩ := h₃
    exact ⟨n + 1 - (i + 1), by omega, i + 1, hlt, rfl, l₃, st₃, j₃⟩
  · obtain rfl : i = n := by omega
    refine W.done _ _ _ st fun h' tk kp => wpAny_execs_nil ?_
    exact fin _ (l.trans (Like.mk' _ _ _)) (up _ _ _ j kp)
end Mine
namespace Mine
def OkX (h₀ : Heap) (L : Nat) (m : Str → Option Value) (D : List Nat) (P : Nat → Value → Heap → Prop) (s : Shared) (v : Value) (s' : Shared) : Prop :=
  ∃ h' tk, s' = { s with heap := h', toks := tk } ∧ Fr h₀ L h' m ∧ Keeps L D s.heap h' ∧ ∀ x, Old h₀ L D s.heap x → P x v h'
theorem frame_x {prog : Program} {w : World} {A : Around} {α : Sem Value} {h₀ : Heap} {fa L : Nat} {m : Str → Option Value} {C : Addr} {D : List Nat} {P : Nat → Value → Heap → Prop} {PE : Heap → Prop} {s : Shared} (F : Fr h₀ L s.heap m)
    {x₀ : Nat} (i0 : Old h₀ L D s.heap x₀)
    (H : ∀ x ox, s.heap.get? x = some ox → h₀.get? x = none → x ≠ L → x ∉ D → wpAny (model prog w) A α (Ok1 h₀ L m x ox (P x) (fun _ _ => True) s) (Rz1 h₀ fa L m C x ox PE s) s) :
    wpAny (model prog w) A α (OkX h₀ L m D P s) (RzOut h₀ fa L m C D PE s) s := by
  obtain ⟨⟨ox₀, g0⟩, n0, l0, d0⟩ := i0
  let ι := { p : Nat × Obj // s.heap.get? p.1 = some p.2 ∧ h₀.get? p.1 = none ∧ p.1 ≠ L ∧ p.1 ∉ D }
  let i₀ : ι := ⟨(x₀, ox₀), g0, n0, l0, d0⟩
  have H1 : wpAny (model prog w) A α (OkOut h₀ L m D (fun _ _ => True) (fun _ _ => True) s) (RzOut h₀ fa L m C D PE s) s :=
    frame_up F g0 n0 l0 d0 fun x ox a b c d => wpAny_mono (H x ox a b c d) (fun v s' ⟨h', tk, e, f, g, _, _⟩ => ⟨h', tk, e, f, g, trivial, trivial⟩) fun _ _ e => e
  have H2 := wpAny_forall (ι := ι) i₀ (Q := fun i => Ok1 h₀ L m i.1.1 i.1.2 (P i.1.1) (fun _ _ => True) s) (E := fun i => Rz1 h₀ fa L m C i.1.1 i.1.2 PE s) fun i => H _ _ i.2.1 i.2.2.1 i.2.2.2.1 i.2.2.2.2
  refine wpAny_mono (wpAny_and H1 H2) (fun v s' h => ?_) fun _ _ e => e.1
  obtain ⟨⟨h', tk, rfl, F', K', _, _⟩, hx⟩ := h
  refine ⟨h', tk, rfl, F', K', fun x ⟨⟨o, ho⟩, q, hl, hd⟩ => ?_⟩
  obtain ⟨h'', tk', e, _, _, hp, _⟩ := hx ⟨(x, o), ho, q, hl, hd⟩
  have e2 : h' = h'' := shared_heap e
  subst e2
  exact hp
/-- a call of import_symbols that gives the tuple of vs, and leaves what led holds -/
def HookI (w : World) (A : Around) (h₀ : Heap) (L : Nat) (pos : List Value) (led : List (Addr × Obj)) (vs : Array Value) : Prop :=
  ∀ (s : Shared) (m : Str → Option Value) (E : Value → Shared → Prop), Fr h₀ L s.heap m → News h₀ L s.heap led → wpAny (model prg w) A (call (.ref 104) pos)
    (fun v s' => ∃ (a n : Nat) (h' : Heap) (tk : Nat), v = .ref a ∧ s' = { s with heap := h', toks := tk } ∧ Fr h₀ L h' m ∧ News h₀ L h' ((a, ({ cls := .type "tuple", data := .seq vs n } : Obj)) :: led) ∧ ∀ q ∈ led, q.1 < a) E s
def NewsB (h₀ B : Heap) (L : Nat) (led : List (Addr × Obj)) : Prop := News h₀ L B led
/-- a call of import_symbols that raises C, and leaves what led holds -/
def HookR (w : World) (A : Around) (h₀ : Heap) (fa L : Nat) (C : Addr) (pos : List Value) (led : List (Addr × Obj)) : Prop :=
  ∀ (s : Shared) (m : Str → Option Value), Fr h₀ L s.heap m → News h₀ L s.heap led → wpAny (model prg w) A (call (.ref 104) pos) (fun _ _ => False)
    (fun e s' => ∃ a t B h' tk, e = .ref a ∧ s' = { s with heap := h', toks := tk } ∧ Fly h₀ B L (envLaw fa L) m a (.ref C) t h' ∧ NewsB h₀ B L led) s
theorem hookI_of {w : World} {A : Around} {h₀ : Heap} {fa L : Nat} {C : Addr} {pos : List Value} {led : List (Addr × Obj)} {vs : Array Value} {x₀ : Nat} {o₀ : Obj} (m0 : (x₀, o₀) ∈ led) (hL : L < x₀)
    (H : ∀ (s : Shared) (m : Str → Option Value) x ox, Fr h₀ L s.heap m → News h₀ L s.heap led → s.heap.get? x = some ox → h₀.get? x = none → x ≠ L → wpAny (model prg w) A (call (.ref 104) pos) (Ok1 h₀ L m x ox (TupOut x vs) (fun _ _ => True) s) (Rz1 h₀ fa L m C x ox (fun _ => False) s) s) :
    HookI w A h₀ L pos led vs := fun s m E F N => by
  have old : ∀ p ∈ led, Old h₀ L [] s.heap p.1 := fun p hp => ⟨⟨_, (N p hp).1⟩, (N p hp).2.2, (N p hp).2.1, by simp⟩
  refine wpAny_mono (frame_x (fa := fa) (C := C) (D := []) F (old _ m0) fun x ox a b c _ => H s m x ox F N a b c) (fun v s' h => ?_) (fun e s' h => ?_)
  · obtain ⟨h', tk, rfl, F', K', hx⟩ := h
    obtain ⟨a, n, rfl, ga, la⟩ := hx _ (old _ m0)
    have hlt : ∀ q ∈ led, q.1 < a := fun q hq => by
      obtain ⟨a', n', e, _, l'⟩ := hx _ (old q hq)
      cases e; exact l'
    refine ⟨a, n, h', tk, rfl, rfl, F', fun p hp => ?_, hlt⟩
    rcases List.mem_cons.mp hp with rfl | hp
    · have hLa : L < a := Nat.lt_trans hL la
      refine ⟨ga, Nat.ne_of_gt hLa, ?_⟩
      cases e : h₀.get? a with
      | none => rfl
      | some o' =>
        have h1 : a < h₀.objs.size := Heap.lt_size e
        have h2 : h₀.objs.size ≤ L := F.above
        omega
    · exact ⟨K' _ _ (N p hp).2.1 (by simp) (N p hp).1, (N p hp).2⟩
  · obtain ⟨_, _, _, _, _, _, _, _, _, _, _, h⟩ := h
    exact h.elim
theorem hookR_of {w : World} {A : Around} {h₀ : Heap} {fa L : Nat} {C : Addr} {pos : List Value} {led : List (Addr × Obj)} {x₀ : Nat} {o₀ : Obj} (m0 : (x₀, o₀) ∈ led)
    (H : ∀ (s : Shared) (m : Str → Option Value) x ox, Fr h₀ L s.heap m → News h₀ L s.heap led → s.heap.get? x = some ox → h₀.get? x = none → x ≠ L → wpAny (model prg w) A (call (.ref 104) pos) (Ok1 h₀ L m x ox (fun _ _ => False) (fun _ _ => True) s) (Rz1 h₀ fa L m C x ox (fun _ => True) s) s) :
    HookR w A h₀ fa L C pos led := fun s m F N => by
  have old : ∀ p ∈ led, Old h₀ L [] s.heap p.1 := fun p hp => ⟨⟨_, (N p hp).1⟩, (N p hp).2.2, (N p hp).2.1, by simp⟩
  refine wpAny_mono (frame_x (fa := fa) (C := C) (D := []) (P := fun _ _ _ => False) F (old _ m0) fun x ox a b c _ => H s m x ox F N a b c) (fun v s' h => ?_) (fun e s' h => ?_)
  · obtain ⟨h', tk, rfl, F', K', hx⟩ := h
    exact hx _ (old _ m0)
  · obtain ⟨a, t, h', tk, B, rfl, rfl, F', st, fly, K, _⟩ := h
    exact ⟨a, t, B, h', tk, rfl, rfl, ⟨st, fly, F'⟩, fun p hp => ⟨K _ _ (N p hp).2.1 (by simp) (N p hp).1, (N p hp).2⟩⟩
theorem hookI_use {w : World} {A : Around} {h₀ : Heap} {L : Nat} {pos : List Value} {led news : List (Addr × Obj)} {vs : Array Value} {s : Shared} {m : Str → Option Value} {Q E : Value → Shared → Prop}
    (H : HookI w A h₀ L pos led vs) (F : Fr h₀ L s.heap m) (N : News h₀ L s.heap news) (sub : ∀ p ∈ led, p ∈ news)
    (k : ∀ (a n : Nat) (h' : Heap) (tk : Nat), Fr h₀ L h' m → News h₀ L h' ((a, ({ cls := .type "tuple", data := .seq vs n } : Obj)) :: led) → (∀ q ∈ led, q.1 < a) → Q (.ref a) { s with heap := h', toks := tk }) :
    wpAny (model prg w) A (call (.ref 104) pos) Q E s :=
  wpAny_mono (H s m E F fun p hp => N p (sub p hp)) (fun v s' ⟨a, n, h', tk, e1, e2, F', N', l⟩ => by subst e1; subst e2; exact k a n h' tk F' N' l) fun _ _ e => e
theorem hookR_use {w : World} {A : Around} {h₀ : Heap} {fa L : Nat} {C : Addr} {pos : List Value} {led news : List (Addr × Obj)} {s : Shared} {m : Str → Option Value} {Q E : Value → Shared → Prop}
    (H : HookR w A h₀ fa L C pos led) (F : Fr h₀ L s.heap m) (N : News h₀ L s.heap news) (sub : ∀ p ∈ led, p ∈ news)
    (k : ∀ a t B h' tk, Fly h₀ B L (envLaw fa L) m a (.ref C) t h' → NewsB h₀ B L led → E (.ref a) { s with heap := h', toks := tk }) :
    wpAny (model prg w) A (call (.ref 104) pos) Q E s :=
  wpAny_mono (H s m F fun p hp => N p (sub p hp)) (fun _ _ e => e.elim) fun e s' ⟨a, t, B, h', tk, e1, e2, fl, nb⟩ => by subst e1; subst e2; exact k a t B h' tk fl nb
theorem news_flyB {h₀ B h' : Heap} {L : Nat} {e t : Addr} {env : Env} {m : Str → Option Value} {cls : Value} {led : List (Addr × Obj)} (R : Fly h₀ B L env m e cls t h') (nb : NewsB h₀ B L led) : News h₀ L h' led := fun p hp =>
  ⟨R.2.1.1 _ _ (nb p hp).1, (nb p hp).2⟩
end Mine
namespace Mine
open PyProof.Rows
section
variable {prog : Program} {w : World} {A : Around} {E : Value → Shared → Prop} {s : Shared} {h₀ : Heap} {L : Addr} {m : Str → Option Value} {env : Env}
def TupAtN (ax : Addr) (its : Array Value) (nw : List (Addr × Obj)) : Prop := False ∨ ∃ o, (ax, o) ∈ nw ∧ o.cls = .type "tuple" ∧ ∃ n, o.data = .seq its n
theorem TupAtN.tup {h₀ h : Heap} {L ax : Addr} {its : Array Value} {nw : List (Addr × Obj)} (x : TupAtN ax its nw) (N : News h₀ L h nw) : h.IsTuple ax its := by
  rcases x with h | ⟨o, hm, hc, n, hd⟩
  · exact h.elim
  · exact ⟨o, (N _ hm).1, hc, n, hd⟩
/-- a comprehension's source is a tuple of the ledger's -/
def TupSrc (prog : Program) (w : World) (A : Around) (h₀ : Heap) (L : Addr) (m : Str → Option Value) (env : Env) (elt : PySem.Expr) (x : Str) (scope : Scope) (cl : List (Str × Addr)) (Fin : Shared → List Value → List (Addr × Obj) → Prop) (xv : Value) (s₁ : Shared) : Prop :=
  ∃ ax its news, xv = .ref ax ∧ A.handled = none ∧ Fr h₀ L s₁.heap m ∧ News h₀ L s₁.heap news ∧ TupAtN ax its news ∧ its.size ≤ sizeLine ∧
    ∀ s₂ : Shared, (∃ h, s₂ = { s₁ with heap := h }) → LCg.CompRest prog w A h₀ L m env elt x scope cl s₂ (TupAtN ax its) (fun i v => its[i]? = some v) (Fin s₂) its.size 0 [] news
theorem TupSrc.intro {elt : PySem.Expr} {x : Str} {scope : Scope} {cl : List (Str × Addr)} {Fin : Shared → List Value → List (Addr × Obj) → Prop} {ax : Addr} {its : Array Value} {k : Nat} {news : List (Addr × Obj)} {s₁ : Shared}
    (hh : A.handled = none) (F : Fr h₀ L s₁.heap m) (N : News h₀ L s₁.heap news) (hm : (ax, ({ cls := .type "tuple", data := .seq its k } : Obj)) ∈ news) (hsz : its.size ≤ sizeLine)
    (h : ∀ g, LCg.CompRest prog w A h₀ L m env elt x scope cl { s₁ with heap := g } (TupAtN ax its) (fun i v => its[i]? = some v) (Fin { s₁ with heap := g }) its.size 0 [] news) :
    TupSrc prog w A h₀ L m env elt x scope cl Fin (.ref ax) s₁ := ⟨ax, its, news, rfl, hh, F, N, .inr ⟨_, hm, rfl, _, rfl⟩, hsz, fun _ ⟨g, e⟩ => e ▸ h g⟩
theorem tup_st {ax I : Addr} {its : Array Value} : ∀ i (h h' : Heap) (o : Obj) (nw : List (Addr × Obj)), (h.IsTupleIter I ax i ∧ h.IsTuple ax its) → h.get? I = some o → h'.get? I = some o → (∀ b o, h₀.get? b = some o → h'.get? b = some o) → News h₀ L h' nw → TupAtN ax its nw → (h'.IsTupleIter I ax i ∧ h'.IsTuple ax its) :=
  fun i h h' o nw st e e' k N S => ⟨by obtain ⟨o', q, r⟩ := st.1; rw [e] at q; cases q; exact ⟨o, e', r⟩, S.tup N⟩
theorem Assign_ListComp_T {elt iter : PySem.Expr} {x y : Str} {px py : Pos} {scope : Scope} {cl : List (Str × Addr)} {pos spos : Pos} {Q : Flow → Shared → Prop} (F₀ : Fr h₀ L s.heap m) (hLe : env.locals = L)
    (hsw : swapsWith (.ListComp elt [⟨.Name x px, iter, [], 0⟩] scope pos) (some (.Name y py)) spos.line env = pure true)
    (hclos : closureFor scope env = pure cl) (hcell : ∀ z ∈ scope.names, z.2 ≠ .cell) (hkind : scope.kind = .function)
    (hnames : ∀ z ∈ scope.names, z.2 = .local → scope.names.lookup z.1 = some .local) (hx : scope.names.lookup x = some .local)
    (hy : env.kindOf y = some .local) (hp : (env.scope.kind == .class || (env.scope.kind == .module && env.locals != env.globals)) = false)
    (h : wpAny (model prog w) A (eval iter env) (TupSrc prog w A h₀ L m env elt x scope cl (fun s₂ => LCg.FinA h₀ L m s₂ y Q)) E s)
    (hs : ∀ x, foldedSetIterable iter env x = pure x := by intro _; rfl) :
    wpAny (model prog w) A (exec (.Assign [.Name y py] (.ListComp elt [⟨.Name x px, iter, [], 0⟩] scope pos) spos) env) Q E s := by
  subst hLe
  rw [exec_Assign_Name_used _ _ _ _ hsw]
  refine wpAny_bind (wpAny_standAt (wpAny_bind ?_))
  show wpAny _ A (do let _ ← comprehension (.ListComp elt [⟨.Name x px, iter, [], 0⟩] scope pos) scope env _ (newList []) false (eval iter env) (some (assign (.Name y py) env))) _ _ s
  refine wpAny_bind (wpAny_mono (wpAny_comprehension_free (use := some (assign (.Name y py) env)) (Q := fun _ s' => Q .next s') rfl hs hclos hkind hnames
    (wpAny_mono h (fun xv s₁ h₁ => ?_) fun _ _ e => e)) (fun _ s' hq => wpAny_pure (wpAny_pure hq)) fun _ _ e => e)
  obtain ⟨ax, its, news, rfl, hh, F, N, S, hsz, R⟩ := h₁
  have hl := S.tup N
  have hlt : (ax : Nat) < s₁.heap.objs.size := by obtain ⟨_, e, _⟩ := hl; exact Heap.lt_size e
  refine wpAny_pyIter_tuple hl ?_
  have up : ∀ b o, s₁.heap.get? b = some o → (s₁.heap.push { cls := .type "tuple_iterator", data := .fields #[.ref ax, .int 0 0] }).get? b = some o := fun b o e => Heap.get?_push_of_some _ e
  have hl' : (s₁.heap.push { cls := .type "tuple_iterator", data := .fields #[.ref ax, .int 0 0] }).IsTuple ax its := by obtain ⟨o, e, r⟩ := hl; exact ⟨o, up _ _ e, r⟩
  refine LCg.block_U (Walks.tuple hh s₁.heap.objs.size ax (Nat.ne_of_lt hlt) its) hsz (fun i h st => by obtain ⟨o, e, _⟩ := st.1; exact ⟨o, e⟩) tup_st hcell hkind hx ⟨⟨_, Heap.get?_push_size _ rfl, rfl, rfl⟩, hl'⟩ (fun b hb => ?_)
    (F.keeps up) (N.grown up) (Nat.ne_of_lt F.ns.lt) (next_is_new F) (fun p hp => Nat.ne_of_lt (Heap.lt_size (N p hp).1)) S (R _ ⟨_, rfl⟩) ?_
  · show b < (s₁.heap.push _).objs.size
    rw [Heap.size_push]
    rcases List.mem_cons.mp hb with rfl | hb
    · exact Nat.lt_succ_self _
    · rw [List.mem_singleton.mp hb]; exact Nat.lt_succ_of_lt hlt
  · intro D C h' tk m' ys news' F' N' o1 hn hC₀ hD₀ hCL hDL hCD offC fin
    show wpAny _ A (assign (.Name y py) env (.ref D)) _ _ _
    refine wpAny_assign_Name (wpAny_storeName_local hy F'.ns (fun h₂ hn₂ hs₂ => ?_) hp)
    have hL₀ : h₀.get? env.locals = none := Heap.get?_none_of_le F'.above
    have F₂ : Fr h₀ env.locals h₂ (fun z => if z = y then some (.ref D) else m z) := ⟨hn₂, fun b o e => hs₂.extBut b o (fun q => by rw [q, hL₀] at e; cases e) (F'.keep b o e), F'.above⟩
    refine ⟨m', hn.sameBut hs₂ hCL, fun h'' hs'' => fin D h'' _ (F₂.change hs'' hCL hC₀) (fun p hp => ?_) o1⟩
    have z : h₂.get? p.1 = some p.2 := hs₂.extBut _ _ (N' p hp).2.1 (N' p hp).1
    refine ⟨hs''.extBut _ _ ?_ z, (N' p hp).2⟩
    rcases List.mem_cons.mp hp with rfl | hp
    · exact Ne.symm hCD
    · exact offC p hp
end
end Mine
namespace Mine
open PySem.SeqAt
section
variable {prog : Program} {w : World} {A : Around} {E : Value → Shared → Prop} {s : Shared} {h₀ : Heap} {L : Addr} {news : List (Addr × Obj)}
theorem ne_lens {a b : Addr} {vs us : Array Value} {n₁ n₂ : Nat} {Q : Value → Shared → Prop} (N : News h₀ L s.heap news) (ha : (a, W.listOf vs n₁) ∈ news) (hb : (b, W.listOf us n₂) ∈ news) (hz : (vs.size != us.size) = true) (hu : A.units < cLine) (h : Q (.bool true) s) :
    wpAny (model prog w) A (compareOp .NotEq (.ref a) (.ref b)) Q E s := RcNeAt.lists_lengths (A := A) (s := s) ⟨_, (N _ ha).1, rfl, _, rfl⟩ ⟨_, (N _ hb).1, rfl, _, rfl⟩ hz hu prog w E Q h
theorem ne_ident {a b : Addr} {vs us : Array Value} {n₁ n₂ : Nat} {Q : Value → Shared → Prop} (N : News h₀ L s.heap news) (ha : (a, W.listOf vs n₁) ∈ news) (hb : (b, W.listOf us n₂) ∈ news) (hz : vs = us) (hu : A.units < cLine) (h : Q (.bool false) s) :
    wpAny (model prog w) A (compareOp .NotEq (.ref a) (.ref b)) Q E s := by
  subst hz
  have := RcNeAt.lists (e := fun _ => true) (A := A) (s := s) (l := a) (b := b) (items := vs) (items2 := vs) ⟨_, (N _ ha).1, rfl, _, rfl⟩ ⟨_, (N _ hb).1, rfl, _, rfl⟩ rfl hu (fun j _ _ => EqAt.same _)
  refine this prog w E Q ?_
  rw [show (List.range vs.size).all (fun _ => true) = true from List.all_eq_true.mpr fun _ _ => rfl]
  exact h
end
theorem news_of {h₀ h : Heap} {L a : Addr} {o : Obj} {news : List (Addr × Obj)} (N : News h₀ L h news) (hm : (a, o) ∈ news) : News h₀ L h [(a, o)] := fun p hp => by
  rw [List.mem_singleton.mp hp]; exact N _ hm
end Mine
namespace Mine
section
variable {prog : Program} {w : World} {A : Around} {E : Value → Shared → Prop} {s : Shared} {h₀ : Heap} {L : Addr} {m : Str → Option Value} {news : List (Addr × Obj)}
theorem addL {a b : Addr} {vs ws : List Value} {n₁ n₂ : Nat} {Q : Value → Shared → Prop} (F : Fr h₀ L s.heap m) (N : News h₀ L s.heap news) (ha : (a, W.listOf vs.toArray n₁) ∈ news) (hb : (b, W.listOf ws.toArray n₂) ∈ news) (hsz : vs.length + ws.length ≤ sizeLine)
    (h : ∀ D h', Fr h₀ L h' m → News h₀ L h' ((D, W.listOf (vs ++ ws).toArray 0) :: news) → (∀ p ∈ news, p.1 < D) → Q (.ref D) { s with heap := h' }) :
    wpAny (model prog w) A (binaryOp .Add (.ref a) (.ref b)) Q E s :=
  add_lists F N ⟨_, (N _ ha).1, rfl, _, rfl⟩ ⟨_, (N _ hb).1, rfl, _, rfl⟩ (fun h' F' N' => h _ h' F' N' fun p hp => Heap.lt_size (N p hp).1) hsz
theorem cut_first (v : Value) (r : List Value) : (slicePick (v :: r).toArray none (some 1) none).toList = [v] := by
  unfold slicePick sliceBounds sliceRange
  simp
  rw [show (if 0 < max 0 (min 1 ((r.length : Int) + 1)) then max 0 (min 1 ((r.length : Int) + 1)) else 0).toNat = 1 from by split <;> omega]
  simp [List.range_succ]
theorem cut_last (v : Value) (r : List Value) : (slicePick (r ++ [v]).toArray (some (-1)) none none).toList = [v] := by
  unfold slicePick sliceBounds sliceRange
  simp
  rw [show max 0 (min (-1 + ((r.length : Int) + 1)) ((r.length : Int) + 1)) = (r.length : Int) from by omega, if_pos (by omega), show ((r.length : Int) + 1 - r.length).toNat = 1 from by omega]
  simp [List.range_succ]
theorem cutL {value slice : PySem.Expr} {l : Addr} {items : Array Value} {n : Nat} {zs : List Value} {vl vu : Value} {lo hi : Option Int} {Q : Value → Shared → Prop}
    (F : Fr h₀ L s.heap m) (N : News h₀ L s.heap news) (hl : (l, W.listOf items n) ∈ news) (pl : IsPart vl lo) (pu : IsPart vu hi) (e : (slicePick items lo hi none).toList = zs)
    (h : ∀ D h', Fr h₀ L h' m → News h₀ L h' ((D, W.listOf zs.toArray 0) :: news) → (∀ p ∈ news, p.1 < D) → Q (.ref D) { s with heap := h' })
    (hs : subscripted slice false (.ref l) (.ref s.heap.objs.size) = operate [.ref s.heap.objs.size, .ref l] (getItem (.ref l) (.ref s.heap.objs.size)))
    (hsz : items.size ≤ sizeLine) :
    wpAny (model prog w) A (subscriptTail value slice (.ref l) (.ref s.heap.objs.size)) Q E { s with heap := s.heap.push { cls := .type "slice", data := .fields #[vl, vu, .none] } } := by
  have hli : s.heap.IsList l items := ⟨_, (N _ hl).1, rfl, _, rfl⟩
  refine tail_any (Heap.IsList.typeIs (s := { s with heap := s.heap.push { cls := .type "slice", data := .fields #[vl, vu, .none] } }) (hli.push _)) list_getitem_lookup
    (wpAny_getItem_list_slice (hli.push _) (Heap.IsSliceOf.new ..) pl pu .none (by simp) ?_ hsz) hs
  have N1 := News.push (F.push { cls := .type "slice", data := .fields #[vl, vu, .none] }) (N.grown fun _ _ e => Heap.get?_push_of_some _ e) { cls := .type "list", data := .seq (slicePick items lo hi none) }
  rw [Heap.size_push] at N1
  show Q (.ref (s.heap.push _).objs.size) _
  rw [Heap.size_push]
  refine h _ _ ((F.push _).push _) ?_ fun p hp => Nat.lt_succ_of_lt (Heap.lt_size (N p hp).1)
  rw [← e, Array.toArray_toList]
  exact N1
end
end Mine
namespace Mine
theorem ZSt.up {I l1 l2 l3 i : Nat} {f0 : Value} {xs ys zs : Array Value} {h h' : Heap} (st : ZSt I f0 l1 l2 l3 xs ys zs i h) (k : ∀ (b : Nat) o, (I ≤ b ∧ b ≤ I + 5) ∨ b = l1 ∨ b = l2 ∨ b = l3 → h.get? b = some o → h'.get? b = some o) : ZSt I f0 l1 l2 l3 xs ys zs i h' := by
  obtain ⟨hz, hT, ⟨a, b, c, hO⟩, h1, h2, h3, g1, g2, g3⟩ := st
  exact ⟨k _ _ (by omega) hz, k _ _ (by omega) hT, ⟨a, b, c, k _ _ (by omega) hO⟩, h1.at fun o e => k I o (by omega) e, h2.at fun o e => k (I + 1) o (by omega) e, h3.at fun o e => k (I + 2) o (by omega) e,
    g1.at fun o e => k l1 o (by omega) e, g2.at fun o e => k l2 o (by omega) e, g3.at fun o e => k l3 o (by omega) e⟩
section
variable {prog : Program} {w : World} {A : Around} {E : Value → Shared → Prop} {s : Shared} {h₀ : Heap} {L : Nat} {m : Str → Option Value} {env : Env} {D : List Nat} {J : Nat → (Str → Option Value) → Heap → Prop}
/-- what stands below n, outside the frame and D, stays -/
def KeepLt (n L : Nat) (D : List Nat) (h h' : Heap) : Prop := ∀ (b : Nat) o, b < n → b ≠ L → b ∉ D → h.get? b = some o → h'.get? b = some o
theorem zipN {l1 l2 l3 : Nat} {xs ys zs : Array Value} {n1 n2 n3 : Nat} {news : List (Addr × Obj)} {Q : Value → Shared → Prop} (F : Fr h₀ L s.heap m) (N : News h₀ L s.heap news) (m1 : (l1, W.listOf xs n1) ∈ news) (m2 : (l2, W.listOf ys n2) ∈ news) (m3 : (l3, W.listOf zs n3) ∈ news)
    (h : ∀ (I : Nat) h', Fr h₀ L h' m → News h₀ L h' news → (∀ p ∈ news, p.1 < I) → ZSt I .none l1 l2 l3 xs ys zs 0 h' → Q (.ref (I + 5)) { s with heap := h' }) :
    wpAny (model prog w) A (call (.type "zip") [.ref l1, .ref l2, .ref l3]) Q E s :=
  call_zip3 ⟨_, (N _ m1).1, rfl, _, rfl⟩ ⟨_, (N _ m2).1, rfl, _, rfl⟩ ⟨_, (N _ m3).1, rfl, _, rfl⟩ fun h' hz hs hk => h _ h' (F.keeps hk) (N.grown hk) (fun p hp => Heap.lt_size (N p hp).1) hz
theorem for_zip {elts : List PySem.Expr} {x1} {tp : Pos} {body : List Stmt} {I l1 l2 l3 : Nat} {xs ys zs : Array Value} {R : Result → Shared → Prop} (hh : A.handled = none)
    (st : ZSt I .none l1 l2 l3 xs ys zs 0 s.heap) (F : Fr h₀ L s.heap m) (hLI : L < I) (b1 : l1 < I) (b2 : l2 < I) (b3 : l3 < I) (a1 : l1 ≠ L ∧ l1 ∉ D) (a2 : l2 ≠ L ∧ l2 ∉ D) (a3 : l3 ≠ L ∧ l3 ∉ D) (hD : ∀ d ∈ D, d < I) (z1 : ys.size = xs.size) (z2 : zs.size = xs.size)
    (Jup : ∀ i m h h', J i m h → (∀ (b : Nat) o, b < I → h.get? b = some o → h'.get? b = some o) → J i m h') (j0 : J 0 m s.heap)
    (step : ∀ i x y v (TT : Nat) s₂ m₂, xs[i]? = some x → ys[i]? = some y → zs[i]? = some v → Like s s₂ → Fr h₀ L s₂.heap m₂ → KeepLt I L D s.heap s₂.heap → J i m₂ s₂.heap → IsTri s₂.heap TT x y v → I + 5 < TT →
      ∀ E, wpAny (model prog w) A (assign (.Tuple elts x1 tp) env (.ref TT)) (fun _ s₃ => wpAny (model prog w) A (execs body env) (fun f s₄ => f = .next ∧ ∃ m₄, Like s₂ s₄ ∧ Fr h₀ L s₄.heap m₄ ∧ Keeps L D s₂.heap s₄.heap ∧ J (i + 1) m₄ s₄.heap) E s₃) E s₂)
    (hQ : ∀ s' m', Like s s' → Fr h₀ L s'.heap m' → KeepLt I L D s.heap s'.heap → J xs.size m' s'.heap → R (.ok .next) s') :
    codeAny (model prog w) A (.forLoop (.Tuple elts x1 tp) (.ref (I + 5)) body [] env) R s := by
  have hI0 : ∀ c : Nat, I ≤ c → h₀.get? c = none := fun c hc => by
    cases e : h₀.get? c with
    | none => rfl
    | some o =>
      have h1 : c < h₀.objs.size := Heap.lt_size e
      have h2 : h₀.objs.size ≤ L := F.above
      omega
  have lt0 : ∀ {b : Nat} {o : Obj}, h₀.get? b = some o → b < I := fun {b o} e => by
    have h1 : b < h₀.objs.size := Heap.lt_size e
    have h2 : h₀.objs.size ≤ L := F.above
    omega
  refine codeAny_forLoop_any (fun k s' => ∃ i m', i ≤ xs.size ∧ k = xs.size + 1 - i ∧ Like s s' ∧ Fr h₀ L s'.heap m' ∧ ZSt I .none l1 l2 l3 xs ys zs i s'.heap ∧ KeepLt I L D s.heap s'.heap ∧ J i m' s'.heap) ?_ (xs.size + 1) ⟨0, m, Nat.zero_le _, rfl, Like.refl _, F, st, fun _ _ _ _ _ e => e, j0⟩
  rintro k s' ⟨i, m', hi, rfl, lk, F', st', kp, j⟩
  by_cases hlt : i < xs.size
  · have hx : xs[i]? = some xs[i] := Array.getElem?_eq_getElem hlt
    have hy : ys[i]? = some (ys[i]'(by omega)) := Array.getElem?_eq_getElem (by omega)
    have hv : zs[i]? = some (zs[i]'(by omega)) := Array.getElem?_eq_getElem (by omega)
    have hz5 : I + 5 < s'.heap.objs.size := Heap.lt_size st'.1
    refine zip3_item b1 b2 b3 st' hx hy hv fun h' st₁ tri zk hsz => ?_
    refine zip3_go b1 b2 b3 st₁ fun h₂ st₂ sb => ?_
    have lo : ∀ (b : Nat) o, b < I → s'.heap.get? b = some o → h₂.get? b = some o := fun b o hb e => sb.extBut b o (nn (by omega)) (zk b o (by omega) (by omega) (by omega) (by omega) (by omega) e)
    have F₂ : Fr h₀ L h₂ m' := ⟨F'.ns.at' fun o e => lo L o hLI e, fun b o e => lo b o (lt0 e) (F'.keep b o e), F'.above⟩
    have lk₂ : Like s' { s' with heap := h₂ } := ⟨h₂, s'.toks, rfl⟩
    refine wpAny_mono (step i _ _ _ s'.heap.objs.size _ m' hx hy hv (lk.trans lk₂) F₂ (fun b o hb hl hd e => lo b o hb (kp b o hb hl hd e)) (Jup _ _ _ _ j lo) (sb.extBut _ _ (nn (by omega)) tri) hz5 _) (fun _ s₃ h₃ => wpAny_mono h₃ (fun f s₄ h₄ => ?_) fun _ _ e => e) fun _ _ e => e
    obtain ⟨rfl, m₄, lk₄, F₄, K₄, j₄⟩ := h₄
    have K₄' : ∀ (b : Nat) o, b ≠ L → b ∉ D → h₂.get? b = some o → s₄.heap.get? b = some o := fun b o n1 n2 e => K₄ b o n1 n2 e
    refine ⟨xs.size + 1 - (i + 1), by omega, i + 1, m₄, hlt, rfl, (lk.trans lk₂).trans lk₄, F₄, st₂.up fun b o hb e => ?_, fun b o hb hl hd e => K₄' b o hl hd (lo b o hb (kp b o hb hl hd e)), j₄⟩
    rcases hb with hb | rfl | rfl | rfl
    · exact K₄' b o (by omega) (fun hm => by have := hD _ hm; omega) e
    · exact K₄' _ o a1.1 a1.2 e
    · exact K₄' _ o a2.1 a2.2 e
    · exact K₄' _ o a3.1 a3.2 e
  · obtain rfl : i = xs.size := by omega
    refine zip3_end hh b1 st' (by simp) fun h' zk => wpAny_execs_nil ?_
    have lo : ∀ (b : Nat) o, b < I → s'.heap.get? b = some o → h'.get? b = some o := fun b o hb e => zk b o (by omega) (by omega) (by omega) (by omega) (by omega) e
    have F₂ : Fr h₀ L h' m' := ⟨F'.ns.at' fun o e => lo L o hLI e, fun b o e => lo b o (lt0 e) (F'.keep b o e), F'.above⟩
    exact hQ _ m' (lk.trans ⟨h', s'.toks, rfl⟩) F₂ (fun b o hb hl hd e => lo b o hb (kp b o hb hl hd e)) (Jup _ _ _ _ j lo)
/-- a loop over a list that stands below the iterator I; the target is a local -/
theorem for_list {xn : Str} {px : Pos} {body : List Stmt} {LI : Nat} {vs : Array Value} {c : Nat} {Q : Flow → Shared → Prop} (hh : A.handled = none) (hx : env.kindOf xn = some .local) (hp : (env.scope.kind == .class || (env.scope.kind == .module && env.locals != env.globals)) = false) (hL : env.locals = L)
    (g : s.heap.get? LI = some (W.listOf vs c)) (F : Fr h₀ L s.heap m) (a1 : LI ≠ L ∧ LI ∉ D) (hD : ∀ d ∈ D, d < s.heap.objs.size)
    (Jup : ∀ i m h h', J i m h → (∀ (b : Nat) o, b < s.heap.objs.size → h.get? b = some o → h'.get? b = some o) → J i m h') (j0 : J 0 m s.heap)
    (step : ∀ i v s₂ m₂, vs[i]? = some v → Like s s₂ → Fr h₀ L s₂.heap (fun y => if y = xn then some v else m₂ y) → KeepLt s.heap.objs.size L D s.heap s₂.heap → J i m₂ s₂.heap →
      ∀ E, wpAny (model prog w) A (execs body env) (fun f s₄ => f = .next ∧ ∃ m₄, Like s₂ s₄ ∧ Fr h₀ L s₄.heap m₄ ∧ Keeps L D s₂.heap s₄.heap ∧ J (i + 1) m₄ s₄.heap) E s₂)
    (JL : ∀ i m h h', J i m h → (∀ (b : Nat) o, b ≠ L → h.get? b = some o → h'.get? b = some o) → J i m h')
    (hQ : ∀ s' m', Like s s' → Fr h₀ L s'.heap m' → KeepLt s.heap.objs.size L D s.heap s'.heap → J vs.size m' s'.heap → Q .next s') :
    wpAny (model prog w) A (pyIter (.ref LI)) (fun it s₂ => codeAny (model prog w) A (.forLoop (.Name xn px) it body [] env) (fun r s' => match r with | .ok f => Q f s' | .error e => cameBackBy (model prog w) A env E e s') s₂) E s := by
  have hlt : LI < s.heap.objs.size := Heap.lt_size g
  have hl : s.heap.IsList LI vs := ⟨_, g, rfl, _, rfl⟩
  refine wpAny_pyIter_list hl ?_
  generalize hI : s.heap.objs.size = I at *
  have W := Walks.list (prog := prog) (w := w) hh I LI (Nat.ne_of_lt hlt) vs
  have hLI : L < I := hI ▸ F.ns.lt
  have lt0 : ∀ {b : Nat} {o : Obj}, h₀.get? b = some o → b < I := fun {b o} e => by
    have h1 : b < h₀.objs.size := Heap.lt_size e
    have h2 : h₀.objs.size ≤ L := F.above
    omega
  have up : ∀ (b : Nat) o, s.heap.get? b = some o → (s.heap.push { cls := .type "list_iterator", data := .fields #[.ref LI, .int 0 0] }).get? b = some o := fun b o e => Heap.get?_push_of_some _ e
  refine for_walks (s₀ := s) W (fun i h => ∃ m', Fr h₀ L h m' ∧ KeepLt I L D s.heap h ∧ J i m' h) (fun i h h' ⟨m', F', kp, j⟩ k => ?_) (fun i v s₁ E' lk hi hv st ⟨m', F', kp, j⟩ => ?_) (fun s₁ lk ⟨m', F', kp, j⟩ => hQ s₁ m' lk F' kp j) (Like.mk' _ _ _) (Nat.zero_le _)
    ⟨⟨_, by rw [← hI]; exact Heap.get?_push_size _ rfl, rfl, rfl⟩, hl.push _⟩ ⟨m, F.push _, fun b o _ _ _ e => up b o e, Jup _ _ _ _ j0 fun b o _ e => up b o e⟩
  · have k' : ∀ (b : Nat) o, b < I → h.get? b = some o → h'.get? b = some o := fun b o hb e => k b o (by simpa using Nat.ne_of_lt hb) e
    exact ⟨m', ⟨F'.ns.at' fun o e => k' L o hLI e, fun b o e => k' b o (lt0 e) (F'.keep b o e), F'.above⟩, fun b o hb hl hd e => k' b o hb (kp b o hb hl hd e), Jup _ _ _ _ j k'⟩
  · refine wpAny_assign_Name (wpAny_storeName_local hx (hL ▸ F'.ns) (fun h₃ hn₃ hs₃ => ?_) hp)
    rw [hL] at hn₃ hs₃
    have F₃ := F'.set hn₃ hs₃
    have k3 : ∀ (b : Nat) o, b ≠ L → s₁.heap.get? b = some o → h₃.get? b = some o := fun b o n e => hs₃.extBut b o n e
    have lk₃ : Like s { s₁ with heap := h₃, toks := s₁.toks + 1 } := lk.trans (Like.mk' _ _ _)
    refine wpAny_mono (step i v _ m' hv lk₃ F₃ (fun b o hb hl hd e => k3 b o hl (kp b o hb hl hd e)) (JL _ _ _ _ j k3) _) (fun f s₄ h₄ => ?_) fun _ _ e => e
    obtain ⟨rfl, m₄, lk₄, F₄, K₄, j₄⟩ := h₄
    have K₄' : ∀ (b : Nat) o, b ≠ L → b ∉ D → h₃.get? b = some o → s₄.heap.get? b = some o := fun b o n1 n2 e => K₄ b o n1 n2 e
    refine ⟨rfl, lk₃.trans lk₄, W.frame _ _ _ st fun b hb o e => ?_, m₄, F₄, fun b o hb hl hd e => K₄' b o hl hd (k3 b o hl (kp b o hb hl hd e)), j₄⟩
    have hb' : b = I ∨ b = LI := by simpa using hb
    rcases hb' with rfl | rfl
    · exact K₄' _ o (Nat.ne_of_gt hLI) (fun hm => by have := hD _ hm; omega) (k3 _ o (Nat.ne_of_gt hLI) e)
    · exact K₄' _ o a1.1 a1.2 (k3 _ o a1.1 e)
end
end Mine
namespace Mine
/-- the list at D holds the pairs of kvs, each in a tuple that stands above D -/
def PairsAt (kvs : List (Str × Value)) (D : Nat) (h : Heap) : Prop :=
  ∃ ys c, h.get? D = some (W.listOf (List.toArray ys) c) ∧ ys.length = kvs.length ∧ ∀ (j : Nat) y, ys[j]? = some y → ∃ (T n : Nat) (k : Str) (t : Tok) (v : Value), y = .ref T ∧ D < T ∧ kvs[j]? = some (k, v) ∧ h.get? T = some ({ cls := .type "tuple", data := .seq #[.str k t, v] n } : Obj)
theorem PairsAt.up {kvs : List (Str × Value)} {D : Nat} {h h' : Heap} (p : PairsAt kvs D h) (k : ∀ (b : Nat) o, D ≤ b → h.get? b = some o → h'.get? b = some o) : PairsAt kvs D h' := by
  obtain ⟨ys, c, g, l, f⟩ := p
  refine ⟨ys, c, k _ _ (Nat.le_refl _) g, l, fun j y hy => ?_⟩
  obtain ⟨T, n, ky, t, v, e, lt, e2, g2⟩ := f j y hy
  exact ⟨T, n, ky, t, v, e, lt, e2, k _ _ (Nat.le_of_lt lt) g2⟩
section
variable {prog : Program} {w : World} {A : Around} {E : Value → Shared → Prop} {s : Shared} {h₀ : Heap} {L d v : Nat} {m : Str → Option Value} {news : List (Addr × Obj)} {o : Obj}
theorem list_items {kvs : List (Str × Value)} {Q : Value → Shared → Prop} (hh : A.handled = none) (F : Fr h₀ L s.heap m) (N : News h₀ L s.heap news) (hv : (v, ({ cls := .type "dict_items", data := .fields #[.ref d] } : Obj)) ∈ news) (hp : (d, o) ∈ news) (hd : o.IsDictOf (strKind prog w) kvs) (hn : kvs.length ≤ sizeLine)
    (h : ∀ (B : Nat) h' tk, PairsAt kvs B h' → Fr h₀ L h' m → News h₀ L h' news → (∀ q ∈ news, q.1 < B) → Q (.ref B) { s with heap := h', toks := tk }) :
    wpAny (model prog w) A (call (.type "list") [.ref v]) Q E s := by
  obtain ⟨ep, hat⟩ := (kda_dict N hp hd).dictAt
  refine kdx_call (knd := strKind prog w) (kvs := kvs) (ep := ep) hh ⟨_, (N _ hv).1, rfl, rfl⟩ hat hn fun h' tk acc c as hk hS hl hG hacc => ?_
  refine h _ h' tk ⟨acc.toList, c, ?_, by rw [hacc, List.length_map, hl], fun j y hy => ?_⟩ (F.keeps hk) (N.grown hk) fun q hq => Heap.lt_size (N q hq).1
  · rw [hS, Array.toArray_toList]
  · rw [hacc, List.getElem?_map] at hy
    obtain ⟨a, ha, rfl⟩ := Option.map_eq_some_iff.mp hy
    obtain ⟨key, k, x, e1, e2, e3⟩ := hG.pairs j a ha
    obtain ⟨t, ht⟩ := Value.isStrOf_shape e2
    subst ht
    exact ⟨a, _, k, t, x, rfl, hG.above a (List.mem_of_getElem? ha), e1, e3⟩
end
end Mine
namespace Mine
/-- a node that is to be exported: its name, its object, its dict, its tuple, its label, its number -/
structure Nd where
  nm : Str
  n : Nat
  d : Nat
  tp : Nat
  lab : Str
  num : Int
def Nd.key (e : Nd) : Str := if e.lab = Str.ofString "" then e.nm else e.lab
def txt (b : Bool) : Str := Str.ofString (if b then "done" else "refused")
def put (v : Nd → Value) (a : List (Str × Value) × Bool) (e : Nd) : List (Str × Value) × Bool :=
  if a.2 && (valueAt a.1 e.nm).isNone then (stored a.1 e.key (v e), true) else (a.1, false)
def puts (v : Nd → Value) (kT : List (Str × Value)) (es : List Nd) : List (Str × Value) × Bool := es.foldl (put v) (kT, true)
theorem puts_snoc {v : Nd → Value} {kT : List (Str × Value)} {es : List Nd} {e : Nd} : puts v kT (es ++ [e]) = put v (puts v kT es) e := by simp [puts]
theorem puts_take {v : Nd → Value} {kT : List (Str × Value)} {es : List Nd} {i : Nat} {e : Nd} (h : es[i]? = some e) : puts v kT (es.take (i + 1)) = put v (puts v kT (es.take i)) e := by
  rw [List.take_add_one, h]; exact puts_snoc
theorem put_len {v : Nd → Value} {a : List (Str × Value) × Bool} {e : Nd} {n : Nat} (h : a.1.length ≤ n) : (put v a e).1.length ≤ n + 1 := by
  unfold put; split
  · exact len_st h
  · exact Nat.le_succ_of_le h
theorem puts_len {v : Nd → Value} {kT : List (Str × Value)} {es : List Nd} : (puts v kT es).1.length ≤ kT.length + es.length := by
  unfold puts
  suffices h : ∀ (es : List Nd) (a : List (Str × Value) × Bool), (es.foldl (put v) a).1.length ≤ a.1.length + es.length from h es (kT, true)
  intro es
  induction es with
  | nil => intro a; simp
  | cons e r ih => intro a; rw [List.foldl_cons, List.length_cons]; have := ih (put v a e); have := put_len (v := v) (e := e) (Nat.le_refl a.1.length); omega
/-- taking back -/
def cut (a : List (Str × Value) × Bool) (k : Str) : List (Str × Value) × Bool := if a.2 && (valueAt a.1 k).isSome then (without a.1 k, true) else (a.1, false)
def cuts (kT : List (Str × Value)) (d : Bool) (ks : List Str) : List (Str × Value) × Bool := ks.foldl cut (kT, d)
theorem cuts_take {kT : List (Str × Value)} {d : Bool} {ks : List Str} {i : Nat} {k : Str} (h : ks[i]? = some k) : cuts kT d (ks.take (i + 1)) = cut (cuts kT d (ks.take i)) k := by
  rw [List.take_add_one, h]; simp [cuts]
theorem cuts_len {kT : List (Str × Value)} {d : Bool} {ks : List Str} : (cuts kT d ks).1.length ≤ kT.length := by
  unfold cuts
  suffices h : ∀ (ks : List Str) (a : List (Str × Value) × Bool), (ks.foldl cut a).1.length ≤ a.1.length from h ks (kT, d)
  intro ks
  induction ks with
  | nil => intro a; exact Nat.le_refl _
  | cons k r ih =>
    intro a
    refine Nat.le_trans (ih _) ?_
    unfold cut; split
    · exact List.length_filter_le _ _
    · exact Nat.le_refl _
theorem txt_t : txt true = Str.ofString "done" := rfl
theorem txt_f : txt false = Str.ofString "refused" := rfl
theorem dis_up {w : World} {h h' : Heap} {d : Nat} {kvs : List (Str × Value)} (x : DIs w h d kvs) (k : ∀ o, h.get? d = some o → h'.get? d = some o) : DIs w h' d kvs := by
  obtain ⟨o, g, r⟩ := x; exact ⟨o, k o g, r⟩
theorem nis_up {w : World} {h h' : Heap} {n d tp : Nat} {lab : Str} (x : NIs w h n d tp lab) (k1 : ∀ o, h.get? n = some o → h'.get? n = some o) (k2 : ∀ o, h.get? d = some o → h'.get? d = some o) : NIs w h' n d tp lab := by
  obtain ⟨g, u1, u2, u3, g2⟩ := x; exact ⟨k1 _ g, u1, u2, u3, k2 _ g2⟩
theorem bis_up {w : World} {h h' : Heap} {DB MS : Nat} {c : Int} (x : BIs w h DB MS c) (k : ∀ o, h.get? DB = some o → h'.get? DB = some o) : BIs w h' DB MS c := by
  obtain ⟨q1, q2, q3, ct, tN, g⟩ := x; exact ⟨q1, q2, q3, ct, tN, k _ g⟩
theorem cis_up' {h h' : Heap} {c : Addr} {v : Value} (x : ∃ o, h.get? c = some o ∧ o.data = .cell (some v)) (k : ∀ o, h.get? c = some o → h'.get? c = some o) : ∃ o, h'.get? c = some o ∧ o.data = .cell (some v) := by
  obtain ⟨o, g, r⟩ := x; exact ⟨o, k o g, r⟩
end Mine
local macro_rules | `(tactic| walk_at "MYVAL") => `(tactic| first | assumption | exact Mine.val_self _ _ _ | exact (rfl : valueAt [] _ = none))
local macro_rules | `(tactic| walk_at "MYLEN1") => `(tactic| first | assumption | exact Mine.len_st (by walk_at "MYLEN1") | exact Mine.len_wo (by walk_at "MYLEN1") | exact Nat.le_refl _)
local macro_rules | `(tactic| walk_at "MYLEN") => `(tactic| exact Nat.le_trans (by walk_at "MYLEN1") (by rw [sizeLine_eq]; exact Nat.le_of_ble_eq_true rfl))
local macro_rules | `(tactic| k_mem) => `(tactic| assumption)
local macro_rules | `(tactic| k_all) => `(tactic| assumption)
local macro_rules | `(tactic| walk_at "compareOp NotIn str ref") => `(tactic| (k_here; k_dflt (first
  | refine Mine.ni_some (knd := PySem.strKind _ _) (by k_asm) (by k_mem) (by k_asm) (by k_asm) (strKind_is _ _ _ _) (by walk_at "MYVAL") ?_
  | refine Mine.ni_none (knd := PySem.strKind _ _) (by k_asm) (by k_mem) (by k_asm) (by k_asm) (strKind_is _ _ _ _) (by walk_at "MYVAL") ?_)))
local macro_rules | `(tactic| walk_at "compareOp In str ref") => `(tactic| (k_here; k_dflt (first
  | refine Mine.in_some (knd := PySem.strKind _ _) (by k_asm) (by k_mem) (by k_asm) (by k_asm) (strKind_is _ _ _ _) (by walk_at "MYVAL") ?_
  | refine Mine.in_none (knd := PySem.strKind _ _) (by k_asm) (by k_mem) (by k_asm) (by k_asm) (strKind_is _ _ _ _) (by walk_at "MYVAL") ?_)))
local macro_rules | `(tactic| walk_at "subscriptTail") => `(tactic| (k_here; k_dflt (
  ((with_reducible show wpAny _ _ (subscriptTail _ _ (Value.ref _) (Value.str _ _)) _ _ _); refine kda_item (knd := PySem.strKind _ _) (by k_asm) (by k_mem) (by k_asm) (strKind_is _ _ _ _) (by walk_at "MYVAL") ?_))))
local macro_rules | `(tactic| walk_at "getItem ref str") => `(tactic| (k_here; k_dflt (
  refine kdt_getItem (knd := PySem.strKind _ _) (by k_asm) (by k_mem) (by k_asm) (strKind_is _ _ _ _) (by walk_at "MYVAL") ?_)))
local macro_rules | `(tactic| walk_at "truthy str") => `(tactic| (k_here; k_dflt (refine KXt.truthy (b := true) (by assumption) (by omega) ?_; intro _)))
local macro_rules | `(tactic| kt_len) => `(tactic| with_reducible assumption)
local macro_rules | `(tactic| walk_at "joinParts") => `(tactic| (k_here; (first | (with_reducible show wpAny _ _ (joinParts _ []) _ _ _) | (with_reducible show wpAny _ _ (joinParts _ (evalEach [] _)) _ _ _)); k_dflt (refine' joinParts_nil ?_ ?hz; (case hz => kt_le))))
local macro_rules | `(tactic| walk_at "And") => `(tactic| (k_here; (with_reducible show PySem.Str.length _ ≤ _ ∧ _); (refine' And.intro ?hz ?_; (case hz => kt_le))))
local macro_rules | `(tactic| k_enter) => `(tactic| (kp_kind "more"; (fail_if_success k_inElt); (refine' Mine.ent_more ?k1 ?k2 ?k3 ?k4 ?k5 ?kA ?kF ?kK ?k6 ?k7 ?k8 ?kX ?kM ?kN ?kR ?kP ?kT ?kB ?_ ?c2 ?c3 ?c4 ?c5; (case kA => exact rfl); (case kF => exact rfl); (case kK => exact rfl); (case k1 => k_asm); (case k2 => k_asm); (case k3 => k_asm); (case k4 => k_asm); (case k5 => k_asm); (case k6 => k_is); (case k7 => k_is); (case k8 => k_room); (case kX => kp_lit); (case kM => exact rfl); (case kN => exact rfl); (case kR => exact rfl); (case kP => exact rfl); (case kT => exact fun _ => rfl); (case kB => exact fun _ => locs rfl); (case c5 => decide); (case c2 => exact rfl); (case c3 => exact rfl); (case c4 => exact rfl); k_whole; intro D' o' g' L' h' tk' l1 lo' hs' FG' F' N' B' X' T'; (try k_lt l1); (try dsimp only); (try k_lift B'); (try k_fold))))
local macro_rules | `(tactic| walk_at "setItem ref str") => `(tactic| (k_here; k_dflt (refine' kda_set (knd := PySem.strKind _ _) ?F ?N ?U ?d (strKind_is _ _ _ _) ?z ?_; (case F => k_asm); (case N => k_asm); (case U => k_updF); (case d => k_asm); (case z => walk_at "MYLEN")); intro h' o' F' N' hd'; (try dsimp only at N')))
local macro_rules | `(tactic| walk_at "delItem ref str") => `(tactic| (k_here; k_dflt (refine' Mine.un_del (knd := PySem.strKind _ _) ?F ?N ?U ?d (strKind_is _ _ _ _) ?l ?z ?_; (case F => k_asm); (case N => k_asm); (case U => k_updF); (case d => k_asm); (case l => walk_at "MYVAL"); (case z => walk_at "MYLEN")); intro h' o' F' N' hd'; (try dsimp only at N')))
local macro_rules | `(tactic| walk_at "truthy ref") => `(tactic| (k_here; k_dflt (first
  | (refine' Mine.tr_yes (knd := PySem.strKind _ _) ?N ?m ?d ?lo ?z ?b ?_; (case N => k_asm); (case m => k_mem); (case d => k_asm); (case lo => k_asm); (case z => walk_at "MYLEN"); (case b => assumption))
  | (refine' Mine.tr_no (knd := PySem.strKind _ _) ?N ?m ?d ?lo ?z ?b ?_; (case N => k_asm); (case m => k_mem); (case d => k_asm); (case lo => k_asm); (case z => walk_at "MYLEN"); (case b => first | assumption | exact rfl)))))
local macro_rules | `(tactic| walk_at "call builtin:dict.get") => `(tactic| (k_here; k_dflt (first
  | refine Mine.get_some (knd := PySem.strKind _ _) (by k_asm) (by k_mem) (by k_asm) (by k_asm) (strKind_is _ _ _ _) (by walk_at "MYVAL") ?_
  | refine Mine.get_none (knd := PySem.strKind _ _) (by k_asm) (by k_mem) (by k_asm) (by k_asm) (strKind_is _ _ _ _) (by walk_at "MYVAL") ?_)))
local macro_rules | `(tactic| walk_at "call type:dict") => `(tactic| (k_here; (with_reducible show wpAny _ _ (call (Value.type "dict") [Value.ref _]) _ _ _); k_dflt (refine' Mine.dict_copy (knd := PySem.strKind _ _) ?F ?N ?B ?p ?d ?lo ?z ?_; (case F => k_asm); (case N => k_asm); (case B => exact Top.nolimit (by k_asm)); (case p => k_mem); (case d => k_asm); (case lo => k_asm); (case z => walk_at "MYLEN")); intro d' h' o' F' N' l1 lo' hd'; (try k_lt l1)))
local macro_rules | `(tactic| walk_at "MYROOM") => `(tactic| first | exact Nat.le_of_ble_eq_true rfl | decide +kernel)
local macro_rules | `(tactic| walk_at "call type:list") => `(tactic| (k_here; (with_reducible show wpAny _ _ (call (Value.type "list") [Value.ref _]) _ _ _); k_dflt (first
  | (refine' Mine.list_keys ?H ?F ?N ?p ?d ?lo ?z ?_; (case H => exact rfl); (case F => k_asm); (case N => k_asm); (case p => k_mem); (case d => k_asm); (case lo => k_asm); (case z => walk_at "MYLEN"))
  | (refine' Mine.list_view ?H ?F ?N ?v ?p ?d ?z ?_; (case H => exact rfl); (case F => k_asm); (case N => k_asm); (case v => k_mem); (case p => k_mem); (case d => k_asm); (case z => walk_at "MYLEN"))); intro B' c' h' tk' vs' sv' F' N' l1; (try k_lt l1)))
local macro_rules | `(tactic| walk_at "compareOp NotEq ref ref") => `(tactic| (k_here; (with_reducible rename Mine.SV _ _ => svX'); k_dflt (refine' Mine.ne_same ?N ?a ?b ?v ?u ?e ?r ?_; (case N => k_asm); (case a => k_mem); (case b => k_mem); (case v => with_reducible assumption); (case u => with_reducible assumption); (case e => with_reducible assumption); (case r => walk_at "MYROOM"))))
local macro_rules | `(tactic| walk_at "compareOp Eq ref ref") => `(tactic| (k_here; k_dflt (first
  | (refine' Mine.eq_lens ?N ?a ?b ?z ?r ?_; (case N => k_asm); (case a => k_mem); (case b => k_mem); (case z => rfl); (case r => walk_at "MYROOM"))
  | (refine' Mine.dict_eq_nil (knd := PySem.strKind _ _) ?N ?a ?b ?da ?db ?la ?lb ?r ?e ?_; (case N => k_asm); (case a => k_mem); (case b => k_mem); (case da => k_asm); (case db => k_asm); (case la => k_asm); (case lb => k_asm); (case r => walk_at "MYROOM"); (case e => assumption))
  | (refine' Mine.dict_eq_cons (knd := PySem.strKind _ _) ?N ?a ?b ?da ?db ?la ?lb ?r ?e ?_; (case N => k_asm); (case a => k_mem); (case b => k_mem); (case da => k_asm); (case db => k_asm); (case la => k_asm); (case lb => k_asm); (case r => walk_at "MYROOM"); (case e => assumption)))))
local macro_rules | `(tactic| walk_at "MYSUB") => `(tactic| first | exact List.forall_mem_nil _ | refine List.forall_mem_cons.mpr ⟨by k_mem, by walk_at "MYSUB"⟩)
local macro_rules | `(tactic| walk_at "MYOK") => `(tactic| (intro v' s' hok'; obtain ⟨h', tk', hs', F', gx', hp', hr'⟩ := hok'; subst hs'; have N' := Mine.news_x gx' (by assumption)))
local macro_rules | `(tactic| walk_at "MYRZ") => `(tactic| (intro e' s' hrz'; obtain ⟨a', t', B', h', tk', he', hs', fly', gx', hp'⟩ := Mine.rz_fly hrz'; subst he'; subst hs'; obtain ⟨o1', o2', g1', g2', qe'⟩ := hp'; try dsimp only))
local macro_rules | `(tactic| walk_at "call ref") => `(tactic| (k_here; (with_reducible rename Mine.Hook _ _ _ _ _ _ _ _ _ _ => hkX'); k_dflt (refine' Mine.hook_use ?H ?F ?N ?sub ?k1 ?k2; (case H => assumption); (case F => k_asm); (case N => k_asm); (case sub => walk_at "MYSUB"); (case' k1 => walk_at "MYOK"); (case' k2 => walk_at "MYRZ"))))
local macro_rules | `(tactic| walk_at "noteFrame ref") => `(tactic| (k_here; (with_reducible rename Mine.Fly _ _ _ _ _ _ _ _ _ => flX'); k_dflt (refine' Mine.fly_look ?A ?R ?_; (case A => exact rfl); (case R => assumption); intro h' R')))
local macro_rules | `(tactic| walk_at "handleBy ref") => `(tactic| (k_here; (with_reducible rename Mine.Fly _ _ _ _ _ _ _ _ _ => flX'); k_dflt (first
  | (refine' Mine.fly_hit ?R ?X ?T ?en ?he ?_; (case R => assumption); (case X => k_asm); (case T => k_asm); (case en => k_is); (case he => kts_exm); intro h' E' R' F'; have N' := Mine.news_fly R' (by assumption) (by assumption) (by assumption) (by assumption))
  | (refine' Mine.fly_pass ?R ?X ?T ?en ?he ?_; (case R => assumption); (case X => k_asm); (case T => k_asm); (case en => k_is); (case he => kts_exm); intro h' R'))))
local macro_rules | `(tactic| walk_at "CompSrc") => `(tactic| (k_here; k_dflt (refine LCg.CompSrc.range (by rfl) (by k_asm) (by k_asm) (by assumption) (by first | decide | rfl) (by first | rfl | decide) (by first | size_fits | exact Nat.le_of_ble_eq_true rfl) ?_; intro g'; lcg_lit)))
local macro_rules | `(tactic| walk_at "exec For Name Name cons nil") => `(tactic| (k_here; (rename Mine.SV _ _ => svX'); k_dflt (refine' Mine.for_del ?hh ?hx ?hp ?hev ?F ?N ?hmem ?U ?hd ?hLI ?hne ?sv ?nd ?hsz ?HB ?hQ; (case hh => exact rfl); (case hx => exact rfl); (case hp => exact rfl); (case F => k_asm); (case N => k_asm); (case hLI => k_mem); (case sv => assumption); (case nd => assumption); (case hd => assumption); (case hmem => k_mem); (case U => k_updF); (case hne => (first | omega | exact Mine.nn (by omega))); (case hsz => assumption); (case hev => (intro E'; refine' nameX_L (cl := []) ?F2 ?e2 ?_; (case F2 => k_asm); (case e2 => rfl); exact ⟨rfl, rfl⟩)); (case' HB => (intro s' o' kvs' k' t' v' E' hs' gl' F' N' hd' hv' hl'; obtain ⟨h', tk', hs'⟩ := hs'; subst hs'; refine' Mine.lift_keep F' gl'.1 gl'.2.1 gl'.2.2.1 gl'.2.2.2 ?_; (intro x' ox' gx' nx' lx' dx'; have N' := Mine.news_two N' gx' nx' lx'; have dx' := Mine.not_one dx'))); (case' hQ => (intro h' tk' o' z' F' N' hd'; try dsimp only at N')))))
local macro_rules | `(tactic| walk_at "call builtin:dict.pop") => `(tactic| (k_here; k_dflt (refine' Mine.un_pop (knd := PySem.strKind _ _) ?F ?N ?U ?d (strKind_is _ _ _ _) ?p ?l ?z ?_; (case F => k_asm); (case N => k_asm); (case U => k_updF); (case d => k_asm); (case p => rfl); (case l => walk_at "MYVAL"); (case z => walk_at "MYLEN")); intro h' o' F' N' hd'; (try dsimp only at N')))
local macro_rules | `(tactic| k_ne) => `(tactic| assumption)
local macro_rules | `(tactic| walk_at "CompRest") => `(tactic| (with_unfolding_all (refine LCg.CompRest.succ ?_; intro v' I' oI' C' oC' D' m' h' tk' E' hv' hC' hx' F' N' off' ne'; (first | lcg_open hv' | (obtain ⟨t9', hv9'⟩ := hv'; subst hv9')); (try simp only [LCg.Off3, and_true] at off'); (iterate 14 (try (obtain ⟨⟨_, _, _⟩, off'⟩ := off'))); (try (obtain ⟨_, _, _⟩ := off')); (try (obtain ⟨_, _, _⟩ := ne')))))
namespace Mine
section
variable {w : World} {s : Shared} {h₀ : Heap} {fa L B DB MS TM x : Nat} {m mg mb : Str → Option Value} {loose : List Str} {mean : ExcName → Option Value} {oMS oTM ox : Obj} {t1 t2 t3 : Tok} {nd nd2 : Nat} {mod nm nm2 : Str} {kM kT : List (Str × Value)}
    {q1 q2 q3 : Tok} {aN tN : Value} {C : Addr} {PE : Heap → Prop} {PO : Value → Heap → Prop}
    (X : (hd.heap_39 w.params).In h₀) (T : Top topProg loose mean mg mb h₀) (Bl : Below callerA h₀ [] h₀) (F : Fr h₀ L s.heap m)
include X T Bl F
theorem imp1_nomod
    (N : News h₀ L s.heap [(B, instObj 121 DB), (DB, bD w q1 q2 q3 aN tN MS), (MS, oMS), (x, ox)])
    (hM : oMS.IsDictOf (strKind prg w) kM) (lM : (MS == sysModules) = false)
    (lm : ((mod.length : Int) != 0) = true) (lm2 : mod.length ≤ 1000) (ln : nm.length ≤ 1000)
    (v1 : valueAt kM mod = none) :
    wpAny (model prg w) (callerA.deeper (envLaw fa L)) (call (.ref 104) [.ref B, .str mod t1, .str nm t2]) (Ok1 h₀ L m x ox PO (fun _ _ => True) s) (Rz1 h₀ fa L m 74 x ox (fun _ => True) s) s := by
  w_on
  w_strict k_steps
  all_goals exact rz1_intro (by assumption) (by assumption) (by assumption) (by k_mem) (fun _ _ => trivial)
theorem imp1_nosym
    (N : News h₀ L s.heap [(B, instObj 121 DB), (DB, bD w q1 q2 q3 aN tN MS), (MS, oMS), (TM, oTM), (x, ox)])
    (hM : oMS.IsDictOf (strKind prg w) kM) (lM : (MS == sysModules) = false)
    (hT : oTM.IsDictOf (strKind prg w) kT) (lT : (TM == sysModules) = false)
    (lm : ((mod.length : Int) != 0) = true) (lm2 : mod.length ≤ 1000) (ln : nm.length ≤ 1000)
    (v1 : valueAt kM mod = some (.ref TM)) (v2 : valueAt kT nm = none) :
    wpAny (model prg w) (callerA.deeper (envLaw fa L)) (call (.ref 104) [.ref B, .str mod t1, .str nm t2]) (Ok1 h₀ L m x ox PO (fun _ _ => True) s) (Rz1 h₀ fa L m 50 x ox (fun _ => True) s) s := by
  w_on
  w_strict k_steps
  all_goals exact rz1_intro (by assumption) (by assumption) (by assumption) (by k_mem) (fun _ _ => trivial)
theorem imp1_ok
    (N : News h₀ L s.heap [(B, instObj 121 DB), (DB, bD w q1 q2 q3 aN tN MS), (MS, oMS), (TM, oTM), (x, ox)])
    (hM : oMS.IsDictOf (strKind prg w) kM) (lM : (MS == sysModules) = false)
    (hT : oTM.IsDictOf (strKind prg w) kT) (lT : (TM == sysModules) = false)
    (lm : ((mod.length : Int) != 0) = true) (lm2 : mod.length ≤ 1000) (ln : nm.length ≤ 1000)
    (v1 : valueAt kM mod = some (.ref TM)) (v2 : valueAt kT nm = some (.ref nd)) :
    wpAny (model prg w) (callerA.deeper (envLaw fa L)) (call (.ref 104) [.ref B, .str mod t1, .str nm t2]) (Ok1 h₀ L m x ox (TupOut x #[.ref nd]) (fun _ _ => True) s) (Rz1 h₀ fa L m C x ox PE s) s := by
  w_on
  w_strict k_steps
  all_goals exact ok1_intro (by assumption) (by assumption) (by k_mem) ⟨_, _, rfl, News.get (by assumption) (List.Mem.head _), by omega⟩ trivial
theorem imp2_nomod
    (N : News h₀ L s.heap [(B, instObj 121 DB), (DB, bD w q1 q2 q3 aN tN MS), (MS, oMS), (x, ox)])
    (hM : oMS.IsDictOf (strKind prg w) kM) (lM : (MS == sysModules) = false)
    (lm : ((mod.length : Int) != 0) = true) (lm2 : mod.length ≤ 1000) (ln : nm.length ≤ 1000) (ln2 : nm2.length ≤ 1000)
    (v1 : valueAt kM mod = none) :
    wpAny (model prg w) (callerA.deeper (envLaw fa L)) (call (.ref 104) [.ref B, .str mod t1, .str nm t2, .str nm2 t3]) (Ok1 h₀ L m x ox PO (fun _ _ => True) s) (Rz1 h₀ fa L m 74 x ox (fun _ => True) s) s := by
  w_on
  w_strict k_steps
  all_goals exact rz1_intro (by assumption) (by assumption) (by assumption) (by k_mem) (fun _ _ => trivial)
theorem imp2_nosym1
    (N : News h₀ L s.heap [(B, instObj 121 DB), (DB, bD w q1 q2 q3 aN tN MS), (MS, oMS), (TM, oTM), (x, ox)])
    (hM : oMS.IsDictOf (strKind prg w) kM) (lM : (MS == sysModules) = false)
    (hT : oTM.IsDictOf (strKind prg w) kT) (lT : (TM == sysModules) = false)
    (lm : ((mod.length : Int) != 0) = true) (lm2 : mod.length ≤ 1000) (ln : nm.length ≤ 1000) (ln2 : nm2.length ≤ 1000)
    (v1 : valueAt kM mod = some (.ref TM)) (v2 : valueAt kT nm = none) :
    wpAny (model prg w) (callerA.deeper (envLaw fa L)) (call (.ref 104) [.ref B, .str mod t1, .str nm t2, .str nm2 t3]) (Ok1 h₀ L m x ox PO (fun _ _ => True) s) (Rz1 h₀ fa L m 50 x ox (fun _ => True) s) s := by
  w_on
  w_strict k_steps
  all_goals exact rz1_intro (by assumption) (by assumption) (by assumption) (by k_mem) (fun _ _ => trivial)
theorem imp2_nosym2
    (N : News h₀ L s.heap [(B, instObj 121 DB), (DB, bD w q1 q2 q3 aN tN MS), (MS, oMS), (TM, oTM), (x, ox)])
    (hM : oMS.IsDictOf (strKind prg w) kM) (lM : (MS == sysModules) = false)
    (hT : oTM.IsDictOf (strKind prg w) kT) (lT : (TM == sysModules) = false)
    (lm : ((mod.length : Int) != 0) = true) (lm2 : mod.length ≤ 1000) (ln : nm.length ≤ 1000) (ln2 : nm2.length ≤ 1000)
    (v1 : valueAt kM mod = some (.ref TM)) (v2 : valueAt kT nm = some (.ref nd)) (v3 : valueAt kT nm2 = none) :
    wpAny (model prg w) (callerA.deeper (envLaw fa L)) (call (.ref 104) [.ref B, .str mod t1, .str nm t2, .str nm2 t3]) (Ok1 h₀ L m x ox PO (fun _ _ => True) s) (Rz1 h₀ fa L m 50 x ox (fun _ => True) s) s := by
  w_on
  w_strict k_steps
  all_goals exact rz1_intro (by assumption) (by assumption) (by assumption) (by k_mem) (fun _ _ => trivial)
theorem imp2_ok
    (N : News h₀ L s.heap [(B, instObj 121 DB), (DB, bD w q1 q2 q3 aN tN MS), (MS, oMS), (TM, oTM), (x, ox)])
    (hM : oMS.IsDictOf (strKind prg w) kM) (lM : (MS == sysModules) = false)
    (hT : oTM.IsDictOf (strKind prg w) kT) (lT : (TM == sysModules) = false)
    (lm : ((mod.length : Int) != 0) = true) (lm2 : mod.length ≤ 1000) (ln : nm.length ≤ 1000) (ln2 : nm2.length ≤ 1000)
    (v1 : valueAt kM mod = some (.ref TM)) (v2 : valueAt kT nm = some (.ref nd)) (v3 : valueAt kT nm2 = some (.ref nd2)) :
    wpAny (model prg w) (callerA.deeper (envLaw fa L)) (call (.ref 104) [.ref B, .str mod t1, .str nm t2, .str nm2 t3]) (Ok1 h₀ L m x ox (TupOut x #[.ref nd, .ref nd2]) (fun _ _ => True) s) (Rz1 h₀ fa L m C x ox PE s) s := by
  w_on
  w_strict k_steps
  all_goals exact ok1_intro (by assumption) (by assumption) (by k_mem) ⟨_, _, rfl, News.get (by assumption) (List.Mem.head _), by omega⟩ trivial
end
end Mine
namespace Mine
section
variable {w : World} {s : Shared} {h₀ : Heap} {fa L B DB MS TM x n1 d1 tp1 n2 d2 tp2 nd : Nat} {m mg mb : Str → Option Value} {loose : List Str} {mean : ExcName → Option Value} {oMS oTM ox : Obj} {t1 t2 t3 : Tok} {mod lab lab2 : Str} {kM kT : List (Str × Value)}
    {q1 q2 q3 u1 u2 u3 y1 y2 y3 : Tok} {c : Int} {ct : Tok} {tN : Value} {C : Addr} {PE : Heap → Prop} {PO : Value → Heap → Prop} {RO : Addr → Heap → Prop}
    (X : (hd.heap_39 w.params).In h₀) (T : Top topProg loose mean mg mb h₀) (Bl : Below callerA h₀ [] h₀) (F : Fr h₀ L s.heap m)
include X T Bl F
theorem exp_o_new_e
    (N : News h₀ L s.heap [(B, instObj 121 DB), (DB, bD w q1 q2 q3 (.int c ct) tN MS), (MS, oMS), (n1, instObj 170 d1), (d1, nD w u1 u2 u3 tp1 (Str.ofString "")), (x, ox)])
    (hM : oMS.IsDictOf (strKind prg w) kM) (lM : (MS == sysModules) = false)
    (hlt : DB < B ∧ B < MS ∧ MS < d1 ∧ d1 < n1)
    (hx : x ≠ MS ∧ x ≠ DB ∧ x ≠ d1)
    (lm : ((mod.length : Int) != 0) = true) (lm2 : mod.length ≤ 1000) (hkM : kM.length ≤ 1000) (hc : 0 ≤ c ∧ c < 1000)
    (v1 : valueAt kM mod = none) :
    wpAny (model prg w) (callerA.deeper (envLaw fa L)) (call (.ref 111) [.ref B, .str mod t1] [((Str.ofString "one"), .ref n1)]) (Ok1 h₀ L m x ox (fun v h => v = .none ∧ ∃ TM : Nat, DIs w h MS (stored kM mod (.ref TM)) ∧ DIs w h TM (stored [] (Str.ofString "one") (.ref n1)) ∧ BIs w h DB MS (c + 1) ∧ NIs w h n1 d1 tp1 (Str.ofString "one")) (fun x h => ∀ TM : Nat, DAt w h MS mod (.ref TM) → x < TM) s) (Rz1 h₀ fa L m C x ox PE s) s := by
  w_on
  w_strict k_steps
  all_goals exact ok1_intro (by assumption) (by assumption) (by k_mem) ⟨rfl, _, ⟨_, News.get (by assumption) (by k_mem), by assumption, by assumption⟩, ⟨_, News.get (by assumption) (by k_mem), by assumption, by assumption⟩, ⟨_, _, _, _, _, News.get (by assumption) (by k_mem)⟩, ⟨News.get (by assumption) (by k_mem), _, _, _, News.get (by assumption) (by k_mem)⟩⟩ (lt_of_dAt (News.get (by assumption) (by k_mem)) (by assumption) (by omega))
theorem exp_o_new_l
    (N : News h₀ L s.heap [(B, instObj 121 DB), (DB, bD w q1 q2 q3 (.int c ct) tN MS), (MS, oMS), (n1, instObj 170 d1), (d1, nD w u1 u2 u3 tp1 lab), (x, ox)])
    (hM : oMS.IsDictOf (strKind prg w) kM) (lM : (MS == sysModules) = false)
    (hlt : DB < B ∧ B < MS ∧ MS < d1 ∧ d1 < n1)
    (hx : x ≠ MS ∧ x ≠ DB ∧ x ≠ d1)
    (lm : ((mod.length : Int) != 0) = true) (lm2 : mod.length ≤ 1000) (hkM : kM.length ≤ 1000) (hc : 0 ≤ c ∧ c < 1000)
    (zlab : ((lab.length : Int) != 0) = true) (ylab : lab.length ≤ 1000)
    (v1 : valueAt kM mod = none) :
    wpAny (model prg w) (callerA.deeper (envLaw fa L)) (call (.ref 111) [.ref B, .str mod t1] [((Str.ofString "one"), .ref n1)]) (Ok1 h₀ L m x ox (fun v h => v = .none ∧ ∃ TM : Nat, DIs w h MS (stored kM mod (.ref TM)) ∧ DIs w h TM (stored [] lab (.ref n1)) ∧ BIs w h DB MS (c + 1) ∧ NIs w h n1 d1 tp1 lab) (fun x h => ∀ TM : Nat, DAt w h MS mod (.ref TM) → x < TM) s) (Rz1 h₀ fa L m C x ox PE s) s := by
  w_on
  w_strict k_steps
  all_goals exact ok1_intro (by assumption) (by assumption) (by k_mem) ⟨rfl, _, ⟨_, News.get (by assumption) (by k_mem), by assumption, by assumption⟩, ⟨_, News.get (by assumption) (by k_mem), by assumption, by assumption⟩, ⟨_, _, _, _, _, News.get (by assumption) (by k_mem)⟩, ⟨News.get (by assumption) (by k_mem), _, _, _, News.get (by assumption) (by k_mem)⟩⟩ (lt_of_dAt (News.get (by assumption) (by k_mem)) (by assumption) (by omega))
theorem exp_o_r1_l
    (N : News h₀ L s.heap [(B, instObj 121 DB), (DB, bD w q1 q2 q3 (.int c ct) tN MS), (MS, oMS), (TM, oTM), (n1, instObj 170 d1), (d1, nD w u1 u2 u3 tp1 lab), (x, ox)])
    (hM : oMS.IsDictOf (strKind prg w) kM) (lM : (MS == sysModules) = false)
    (hT : oTM.IsDictOf (strKind prg w) kT) (lT : (TM == sysModules) = false)
    (hlt : DB < B ∧ B < MS ∧ MS < TM ∧ TM < d1 ∧ d1 < n1)
    (lm : ((mod.length : Int) != 0) = true) (lm2 : mod.length ≤ 1000) (hkM : kM.length ≤ 1000) (hc : 0 ≤ c ∧ c < 1000)
    (hkT : kT.length ≤ 900)
    (v1 : valueAt kM mod = some (.ref TM))
    (v2 : valueAt kT (Str.ofString "one") = some (.ref nd)) :
    wpAny (model prg w) (callerA.deeper (envLaw fa L)) (call (.ref 111) [.ref B, .str mod t1] [((Str.ofString "one"), .ref n1)]) (Ok1 h₀ L m x ox PO RO s) (Rz1 h₀ fa L m 50 x ox (fun _ => True) s) s := by
  w_on
  w_strict k_steps
  all_goals exact rz1_intro (by assumption) (by assumption) (by assumption) (by k_mem) (fun _ _ => trivial)
theorem exp_o_ok_e
    (N : News h₀ L s.heap [(B, instObj 121 DB), (DB, bD w q1 q2 q3 (.int c ct) tN MS), (MS, oMS), (TM, oTM), (n1, instObj 170 d1), (d1, nD w u1 u2 u3 tp1 (Str.ofString "")), (x, ox)])
    (hM : oMS.IsDictOf (strKind prg w) kM) (lM : (MS == sysModules) = false)
    (hT : oTM.IsDictOf (strKind prg w) kT) (lT : (TM == sysModules) = false)
    (hlt : DB < B ∧ B < MS ∧ MS < TM ∧ TM < d1 ∧ d1 < n1)
    (hx : x ≠ TM ∧ x ≠ DB ∧ x ≠ d1)
    (lm : ((mod.length : Int) != 0) = true) (lm2 : mod.length ≤ 1000) (hkM : kM.length ≤ 1000) (hc : 0 ≤ c ∧ c < 1000)
    (hkT : kT.length ≤ 900)
    (v1 : valueAt kM mod = some (.ref TM))
    (v2 : valueAt kT (Str.ofString "one") = none) :
    wpAny (model prg w) (callerA.deeper (envLaw fa L)) (call (.ref 111) [.ref B, .str mod t1] [((Str.ofString "one"), .ref n1)]) (Ok1 h₀ L m x ox (fun v h => v = .none ∧ DIs w h TM (stored kT (Str.ofString "one") (.ref n1)) ∧ BIs w h DB MS (c + 1) ∧ NIs w h n1 d1 tp1 (Str.ofString "one")) (fun _ _ => True) s) (Rz1 h₀ fa L m C x ox PE s) s := by
  w_on
  w_strict k_steps
  all_goals exact ok1_intro (by assumption) (by assumption) (by k_mem) ⟨rfl, ⟨_, News.get (by assumption) (by k_mem), by assumption, by assumption⟩, ⟨_, _, _, _, _, News.get (by assumption) (by k_mem)⟩, ⟨News.get (by assumption) (by k_mem), _, _, _, News.get (by assumption) (by k_mem)⟩⟩ trivial
theorem exp_o_ok_l
    (N : News h₀ L s.heap [(B, instObj 121 DB), (DB, bD w q1 q2 q3 (.int c ct) tN MS), (MS, oMS), (TM, oTM), (n1, instObj 170 d1), (d1, nD w u1 u2 u3 tp1 lab), (x, ox)])
    (hM : oMS.IsDictOf (strKind prg w) kM) (lM : (MS == sysModules) = false)
    (hT : oTM.IsDictOf (strKind prg w) kT) (lT : (TM == sysModules) = false)
    (hlt : DB < B ∧ B < MS ∧ MS < TM ∧ TM < d1 ∧ d1 < n1)
    (hx : x ≠ TM ∧ x ≠ DB ∧ x ≠ d1)
    (lm : ((mod.length : Int) != 0) = true) (lm2 : mod.length ≤ 1000) (hkM : kM.length ≤ 1000) (hc : 0 ≤ c ∧ c < 1000)
    (hkT : kT.length ≤ 900)
    (zlab : ((lab.length : Int) != 0) = true) (ylab : lab.length ≤ 1000)
    (v1 : valueAt kM mod = some (.ref TM))
    (v2 : valueAt kT (Str.ofString "one") = none) :
    wpAny (model prg w) (callerA.deeper (envLaw fa L)) (call (.ref 111) [.ref B, .str mod t1] [((Str.ofString "one"), .ref n1)]) (Ok1 h₀ L m x ox (fun v h => v = .none ∧ DIs w h TM (stored kT lab (.ref n1)) ∧ BIs w h DB MS (c + 1) ∧ NIs w h n1 d1 tp1 lab) (fun _ _ => True) s) (Rz1 h₀ fa L m C x ox PE s) s := by
  w_on
  w_strict k_steps
  all_goals exact ok1_intro (by assumption) (by assumption) (by k_mem) ⟨rfl, ⟨_, News.get (by assumption) (by k_mem), by assumption, by assumption⟩, ⟨_, _, _, _, _, News.get (by assumption) (by k_mem)⟩, ⟨News.get (by assumption) (by k_mem), _, _, _, News.get (by assumption) (by k_mem)⟩⟩ trivial
theorem exp_t_new_e
    (N : News h₀ L s.heap [(B, instObj 121 DB), (DB, bD w q1 q2 q3 (.int c ct) tN MS), (MS, oMS), (n1, instObj 170 d1), (d1, nD w u1 u2 u3 tp1 (Str.ofString "")), (x, ox)])
    (hM : oMS.IsDictOf (strKind prg w) kM) (lM : (MS == sysModules) = false)
    (hlt : DB < B ∧ B < MS ∧ MS < d1 ∧ d1 < n1)
    (hx : x ≠ MS ∧ x ≠ DB ∧ x ≠ d1)
    (lm : ((mod.length : Int) != 0) = true) (lm2 : mod.length ≤ 1000) (hkM : kM.length ≤ 1000) (hc : 0 ≤ c ∧ c < 1000)
    (v1 : valueAt kM mod = none) :
    wpAny (model prg w) (callerA.deeper (envLaw fa L)) (call (.ref 111) [.ref B, .str mod t1] [((Str.ofString "two"), .ref n1)]) (Ok1 h₀ L m x ox (fun v h => v = .none ∧ ∃ TM : Nat, DIs w h MS (stored kM mod (.ref TM)) ∧ DIs w h TM (stored [] (Str.ofString "two") (.ref n1)) ∧ BIs w h DB MS (c + 1) ∧ NIs w h n1 d1 tp1 (Str.ofString "two")) (fun x h => ∀ TM : Nat, DAt w h MS mod (.ref TM) → x < TM) s) (Rz1 h₀ fa L m C x ox PE s) s := by
  w_on
  w_strict k_steps
  all_goals exact ok1_intro (by assumption) (by assumption) (by k_mem) ⟨rfl, _, ⟨_, News.get (by assumption) (by k_mem), by assumption, by assumption⟩, ⟨_, News.get (by assumption) (by k_mem), by assumption, by assumption⟩, ⟨_, _, _, _, _, News.get (by assumption) (by k_mem)⟩, ⟨News.get (by assumption) (by k_mem), _, _, _, News.get (by assumption) (by k_mem)⟩⟩ (lt_of_dAt (News.get (by assumption) (by k_mem)) (by assumption) (by omega))
theorem exp_t_new_l
    (N : News h₀ L s.heap [(B, instObj 121 DB), (DB, bD w q1 q2 q3 (.int c ct) tN MS), (MS, oMS), (n1, instObj 170 d1), (d1, nD w u1 u2 u3 tp1 lab), (x, ox)])
    (hM : oMS.IsDictOf (strKind prg w) kM) (lM : (MS == sysModules) = false)
    (hlt : DB < B ∧ B < MS ∧ MS < d1 ∧ d1 < n1)
    (hx : x ≠ MS ∧ x ≠ DB ∧ x ≠ d1)
    (lm : ((mod.length : Int) != 0) = true) (lm2 : mod.length ≤ 1000) (hkM : kM.length ≤ 1000) (hc : 0 ≤ c ∧ c < 1000)
    (zlab : ((lab.length : Int) != 0) = true) (ylab : lab.length ≤ 1000)
    (v1 : valueAt kM mod = none) :
    wpAny (model prg w) (callerA.deeper (envLaw fa L)) (call (.ref 111) [.ref B, .str mod t1] [((Str.ofString "two"), .ref n1)]) (Ok1 h₀ L m x ox (fun v h => v = .none ∧ ∃ TM : Nat, DIs w h MS (stored kM mod (.ref TM)) ∧ DIs w h TM (stored [] lab (.ref n1)) ∧ BIs w h DB MS (c + 1) ∧ NIs w h n1 d1 tp1 lab) (fun x h => ∀ TM : Nat, DAt w h MS mod (.ref TM) → x < TM) s) (Rz1 h₀ fa L m C x ox PE s) s := by
  w_on
  w_strict k_steps
  all_goals exact ok1_intro (by assumption) (by assumption) (by k_mem) ⟨rfl, _, ⟨_, News.get (by assumption) (by k_mem), by assumption, by assumption⟩, ⟨_, News.get (by assumption) (by k_mem), by assumption, by assumption⟩, ⟨_, _, _, _, _, News.get (by assumption) (by k_mem)⟩, ⟨News.get (by assumption) (by k_mem), _, _, _, News.get (by assumption) (by k_mem)⟩⟩ (lt_of_dAt (News.get (by assumption) (by k_mem)) (by assumption) (by omega))
theorem exp_t_r1_l
    (N : News h₀ L s.heap [(B, instObj 121 DB), (DB, bD w q1 q2 q3 (.int c ct) tN MS), (MS, oMS), (TM, oTM), (n1, instObj 170 d1), (d1, nD w u1 u2 u3 tp1 lab), (x, ox)])
    (hM : oMS.IsDictOf (strKind prg w) kM) (lM : (MS == sysModules) = false)
    (hT : oTM.IsDictOf (strKind prg w) kT) (lT : (TM == sysModules) = false)
    (hlt : DB < B ∧ B < MS ∧ MS < TM ∧ TM < d1 ∧ d1 < n1)
    (lm : ((mod.length : Int) != 0) = true) (lm2 : mod.length ≤ 1000) (hkM : kM.length ≤ 1000) (hc : 0 ≤ c ∧ c < 1000)
    (hkT : kT.length ≤ 900)
    (v1 : valueAt kM mod = some (.ref TM))
    (v2 : valueAt kT (Str.ofString "two") = some (.ref nd)) :
    wpAny (model prg w) (callerA.deeper (envLaw fa L)) (call (.ref 111) [.ref B, .str mod t1] [((Str.ofString "two"), .ref n1)]) (Ok1 h₀ L m x ox PO RO s) (Rz1 h₀ fa L m 50 x ox (fun _ => True) s) s := by
  w_on
  w_strict k_steps
  all_goals exact rz1_intro (by assumption) (by assumption) (by assumption) (by k_mem) (fun _ _ => trivial)
theorem exp_t_ok_e
    (N : News h₀ L s.heap [(B, instObj 121 DB), (DB, bD w q1 q2 q3 (.int c ct) tN MS), (MS, oMS), (TM, oTM), (n1, instObj 170 d1), (d1, nD w u1 u2 u3 tp1 (Str.ofString "")), (x, ox)])
    (hM : oMS.IsDictOf (strKind prg w) kM) (lM : (MS == sysModules) = false)
    (hT : oTM.IsDictOf (strKind prg w) kT) (lT : (TM == sysModules) = false)
    (hlt : DB < B ∧ B < MS ∧ MS < TM ∧ TM < d1 ∧ d1 < n1)
    (hx : x ≠ TM ∧ x ≠ DB ∧ x ≠ d1)
    (lm : ((mod.length : Int) != 0) = true) (lm2 : mod.length ≤ 1000) (hkM : kM.length ≤ 1000) (hc : 0 ≤ c ∧ c < 1000)
    (hkT : kT.length ≤ 900)
    (v1 : valueAt kM mod = some (.ref TM))
    (v2 : valueAt kT (Str.ofString "two") = none) :
    wpAny (model prg w) (callerA.deeper (envLaw fa L)) (call (.ref 111) [.ref B, .str mod t1] [((Str.ofString "two"), .ref n1)]) (Ok1 h₀ L m x ox (fun v h => v = .none ∧ DIs w h TM (stored kT (Str.ofString "two") (.ref n1)) ∧ BIs w h DB MS (c + 1) ∧ NIs w h n1 d1 tp1 (Str.ofString "two")) (fun _ _ => True) s) (Rz1 h₀ fa L m C x ox PE s) s := by
  w_on
  w_strict k_steps
  all_goals exact ok1_intro (by assumption) (by assumption) (by k_mem) ⟨rfl, ⟨_, News.get (by assumption) (by k_mem), by assumption, by assumption⟩, ⟨_, _, _, _, _, News.get (by assumption) (by k_mem)⟩, ⟨News.get (by assumption) (by k_mem), _, _, _, News.get (by assumption) (by k_mem)⟩⟩ trivial
theorem exp_t_ok_l
    (N : News h₀ L s.heap [(B, instObj 121 DB), (DB, bD w q1 q2 q3 (.int c ct) tN MS), (MS, oMS), (TM, oTM), (n1, instObj 170 d1), (d1, nD w u1 u2 u3 tp1 lab), (x, ox)])
    (hM : oMS.IsDictOf (strKind prg w) kM) (lM : (MS == sysModules) = false)
    (hT : oTM.IsDictOf (strKind prg w) kT) (lT : (TM == sysModules) = false)
    (hlt : DB < B ∧ B < MS ∧ MS < TM ∧ TM < d1 ∧ d1 < n1)
    (hx : x ≠ TM ∧ x ≠ DB ∧ x ≠ d1)
    (lm : ((mod.length : Int) != 0) = true) (lm2 : mod.length ≤ 1000) (hkM : kM.length ≤ 1000) (hc : 0 ≤ c ∧ c < 1000)
    (hkT : kT.length ≤ 900)
    (zlab : ((lab.length : Int) != 0) = true) (ylab : lab.length ≤ 1000)
    (v1 : valueAt kM mod = some (.ref TM))
    (v2 : valueAt kT (Str.ofString "two") = none) :
    wpAny (model prg w) (callerA.deeper (envLaw fa L)) (call (.ref 111) [.ref B, .str mod t1] [((Str.ofString "two"), .ref n1)]) (Ok1 h₀ L m x ox (fun v h => v = .none ∧ DIs w h TM (stored kT lab (.ref n1)) ∧ BIs w h DB MS (c + 1) ∧ NIs w h n1 d1 tp1 lab) (fun _ _ => True) s) (Rz1 h₀ fa L m C x ox PE s) s := by
  w_on
  w_strict k_steps
  all_goals exact ok1_intro (by assumption) (by assumption) (by k_mem) ⟨rfl, ⟨_, News.get (by assumption) (by k_mem), by assumption, by assumption⟩, ⟨_, _, _, _, _, News.get (by assumption) (by k_mem)⟩, ⟨News.get (by assumption) (by k_mem), _, _, _, News.get (by assumption) (by k_mem)⟩⟩ trivial
theorem exp_ot_new_e
    (N : News h₀ L s.heap [(B, instObj 121 DB), (DB, bD w q1 q2 q3 (.int c ct) tN MS), (MS, oMS), (n1, instObj 170 d1), (d1, nD w u1 u2 u3 tp1 (Str.ofString "")), (n2, instObj 170 d2), (d2, nD w y1 y2 y3 tp2 (Str.ofString "")), (x, ox)])
    (hM : oMS.IsDictOf (strKind prg w) kM) (lM : (MS == sysModules) = false)
    (hlt : DB < B ∧ B < MS ∧ MS < d1 ∧ d1 < n1 ∧ n1 < d2 ∧ d2 < n2)
    (hx : x ≠ MS ∧ x ≠ DB ∧ x ≠ d1 ∧ x ≠ d2)
    (lm : ((mod.length : Int) != 0) = true) (lm2 : mod.length ≤ 1000) (hkM : kM.length ≤ 1000) (hc : 0 ≤ c ∧ c < 1000)
    (v1 : valueAt kM mod = none)
    (v3 : valueAt (stored [] (Str.ofString "one") (.ref n1)) (Str.ofString "two") = none) :
    wpAny (model prg w) (callerA.deeper (envLaw fa L)) (call (.ref 111) [.ref B, .str mod t1] [((Str.ofString "one"), .ref n1), ((Str.ofString "two"), .ref n2)]) (Ok1 h₀ L m x ox (fun v h => v = .none ∧ ∃ TM : Nat, DIs w h MS (stored kM mod (.ref TM)) ∧ DIs w h TM (stored (stored [] (Str.ofString "one") (.ref n1)) (Str.ofString "two") (.ref n2)) ∧ BIs w h DB MS (c + 1) ∧ NIs w h n1 d1 tp1 (Str.ofString "one") ∧ NIs w h n2 d2 tp2 (Str.ofString "two")) (fun x h => ∀ TM : Nat, DAt w h MS mod (.ref TM) → x < TM) s) (Rz1 h₀ fa L m C x ox PE s) s := by
  w_on
  w_strict k_steps
  all_goals exact ok1_intro (by assumption) (by assumption) (by k_mem) ⟨rfl, _, ⟨_, News.get (by assumption) (by k_mem), by assumption, by assumption⟩, ⟨_, News.get (by assumption) (by k_mem), by assumption, by assumption⟩, ⟨_, _, _, _, _, News.get (by assumption) (by k_mem)⟩, ⟨News.get (by assumption) (by k_mem), _, _, _, News.get (by assumption) (by k_mem)⟩, ⟨News.get (by assumption) (by k_mem), _, _, _, News.get (by assumption) (by k_mem)⟩⟩ (lt_of_dAt (News.get (by assumption) (by k_mem)) (by assumption) (by omega))
theorem exp_ot_new_l
    (N : News h₀ L s.heap [(B, instObj 121 DB), (DB, bD w q1 q2 q3 (.int c ct) tN MS), (MS, oMS), (n1, instObj 170 d1), (d1, nD w u1 u2 u3 tp1 lab), (n2, instObj 170 d2), (d2, nD w y1 y2 y3 tp2 lab2), (x, ox)])
    (hM : oMS.IsDictOf (strKind prg w) kM) (lM : (MS == sysModules) = false)
    (hlt : DB < B ∧ B < MS ∧ MS < d1 ∧ d1 < n1 ∧ n1 < d2 ∧ d2 < n2)
    (hx : x ≠ MS ∧ x ≠ DB ∧ x ≠ d1 ∧ x ≠ d2)
    (lm : ((mod.length : Int) != 0) = true) (lm2 : mod.length ≤ 1000) (hkM : kM.length ≤ 1000) (hc : 0 ≤ c ∧ c < 1000)
    (zlab : ((lab.length : Int) != 0) = true) (ylab : lab.length ≤ 1000)
    (zlab2 : ((lab2.length : Int) != 0) = true) (ylab2 : lab2.length ≤ 1000)
    (v1 : valueAt kM mod = none)
    (v3 : valueAt (stored [] lab (.ref n1)) (Str.ofString "two") = none) :
    wpAny (model prg w) (callerA.deeper (envLaw fa L)) (call (.ref 111) [.ref B, .str mod t1] [((Str.ofString "one"), .ref n1), ((Str.ofString "two"), .ref n2)]) (Ok1 h₀ L m x ox (fun v h => v = .none ∧ ∃ TM : Nat, DIs w h MS (stored kM mod (.ref TM)) ∧ DIs w h TM (stored (stored [] lab (.ref n1)) lab2 (.ref n2)) ∧ BIs w h DB MS (c + 1) ∧ NIs w h n1 d1 tp1 lab ∧ NIs w h n2 d2 tp2 lab2) (fun x h => ∀ TM : Nat, DAt w h MS mod (.ref TM) → x < TM) s) (Rz1 h₀ fa L m C x ox PE s) s := by
  w_on
  w_strict k_steps
  all_goals exact ok1_intro (by assumption) (by assumption) (by k_mem) ⟨rfl, _, ⟨_, News.get (by assumption) (by k_mem), by assumption, by assumption⟩, ⟨_, News.get (by assumption) (by k_mem), by assumption, by assumption⟩, ⟨_, _, _, _, _, News.get (by assumption) (by k_mem)⟩, ⟨News.get (by assumption) (by k_mem), _, _, _, News.get (by assumption) (by k_mem)⟩, ⟨News.get (by assumption) (by k_mem), _, _, _, News.get (by assumption) (by k_mem)⟩⟩ (lt_of_dAt (News.get (by assumption) (by k_mem)) (by assumption) (by omega))
theorem exp_ot_r1_l
    (N : News h₀ L s.heap [(B, instObj 121 DB), (DB, bD w q1 q2 q3 (.int c ct) tN MS), (MS, oMS), (TM, oTM), (n1, instObj 170 d1), (d1, nD w u1 u2 u3 tp1 lab), (n2, instObj 170 d2), (d2, nD w y1 y2 y3 tp2 lab2), (x, ox)])
    (hM : oMS.IsDictOf (strKind prg w) kM) (lM : (MS == sysModules) = false)
    (hT : oTM.IsDictOf (strKind prg w) kT) (lT : (TM == sysModules) = false)
    (hlt : DB < B ∧ B < MS ∧ MS < TM ∧ TM < d1 ∧ d1 < n1 ∧ n1 < d2 ∧ d2 < n2)
    (lm : ((mod.length : Int) != 0) = true) (lm2 : mod.length ≤ 1000) (hkM : kM.length ≤ 1000) (hc : 0 ≤ c ∧ c < 1000)
    (hkT : kT.length ≤ 900)
    (v1 : valueAt kM mod = some (.ref TM))
    (v2 : valueAt kT (Str.ofString "one") = some (.ref nd)) :
    wpAny (model prg w) (callerA.deeper (envLaw fa L)) (call (.ref 111) [.ref B, .str mod t1] [((Str.ofString "one"), .ref n1), ((Str.ofString "two"), .ref n2)]) (Ok1 h₀ L m x ox PO RO s) (Rz1 h₀ fa L m 50 x ox (fun _ => True) s) s := by
  w_on
  w_strict k_steps
  all_goals exact rz1_intro (by assumption) (by assumption) (by assumption) (by k_mem) (fun _ _ => trivial)
theorem exp_ot_r2_e
    (N : News h₀ L s.heap [(B, instObj 121 DB), (DB, bD w q1 q2 q3 (.int c ct) tN MS), (MS, oMS), (TM, oTM), (n1, instObj 170 d1), (d1, nD w u1 u2 u3 tp1 (Str.ofString "")), (n2, instObj 170 d2), (d2, nD w y1 y2 y3 tp2 (Str.ofString "")), (x, ox)])
    (hM : oMS.IsDictOf (strKind prg w) kM) (lM : (MS == sysModules) = false)
    (hT : oTM.IsDictOf (strKind prg w) kT) (lT : (TM == sysModules) = false)
    (hlt : DB < B ∧ B < MS ∧ MS < TM ∧ TM < d1 ∧ d1 < n1 ∧ n1 < d2 ∧ d2 < n2)
    (hx : x ≠ TM ∧ x ≠ d1)
    (lm : ((mod.length : Int) != 0) = true) (lm2 : mod.length ≤ 1000) (hkM : kM.length ≤ 1000) (hc : 0 ≤ c ∧ c < 1000)
    (hkT : kT.length ≤ 900)
    (v1 : valueAt kM mod = some (.ref TM))
    (v2 : valueAt kT (Str.ofString "one") = none)
    (v3 : valueAt (stored kT (Str.ofString "one") (.ref n1)) (Str.ofString "two") = some (.ref nd)) :
    wpAny (model prg w) (callerA.deeper (envLaw fa L)) (call (.ref 111) [.ref B, .str mod t1] [((Str.ofString "one"), .ref n1), ((Str.ofString "two"), .ref n2)]) (Ok1 h₀ L m x ox PO RO s) (Rz1 h₀ fa L m 50 x ox (fun h => DIs w h TM (stored kT (Str.ofString "one") (.ref n1)) ∧ NIs w h n1 d1 tp1 (Str.ofString "one")) s) s := by
  w_on
  w_strict k_steps
  all_goals exact rz1_intro (by assumption) (by assumption) (by assumption) (by k_mem) (fun _ hB => ⟨⟨_, hB (TM, _) (by k_mem), by assumption, by assumption⟩, hB (n1, _) (by k_mem), _, _, _, hB (d1, _) (by k_mem)⟩)
theorem exp_ot_r2_l
    (N : News h₀ L s.heap [(B, instObj 121 DB), (DB, bD w q1 q2 q3 (.int c ct) tN MS), (MS, oMS), (TM, oTM), (n1, instObj 170 d1), (d1, nD w u1 u2 u3 tp1 lab), (n2, instObj 170 d2), (d2, nD w y1 y2 y3 tp2 lab2), (x, ox)])
    (hM : oMS.IsDictOf (strKind prg w) kM) (lM : (MS == sysModules) = false)
    (hT : oTM.IsDictOf (strKind prg w) kT) (lT : (TM == sysModules) = false)
    (hlt : DB < B ∧ B < MS ∧ MS < TM ∧ TM < d1 ∧ d1 < n1 ∧ n1 < d2 ∧ d2 < n2)
    (hx : x ≠ TM ∧ x ≠ d1)
    (lm : ((mod.length : Int) != 0) = true) (lm2 : mod.length ≤ 1000) (hkM : kM.length ≤ 1000) (hc : 0 ≤ c ∧ c < 1000)
    (hkT : kT.length ≤ 900)
    (zlab : ((lab.length : Int) != 0) = true) (ylab : lab.length ≤ 1000)
    (v1 : valueAt kM mod = some (.ref TM))
    (v2 : valueAt kT (Str.ofString "one") = none)
    (v3 : valueAt (stored kT lab (.ref n1)) (Str.ofString "two") = some (.ref nd)) :
    wpAny (model prg w) (callerA.deeper (envLaw fa L)) (call (.ref 111) [.ref B, .str mod t1] [((Str.ofString "one"), .ref n1), ((Str.ofString "two"), .ref n2)]) (Ok1 h₀ L m x ox PO RO s) (Rz1 h₀ fa L m 50 x ox (fun h => DIs w h TM (stored kT lab (.ref n1)) ∧ NIs w h n1 d1 tp1 lab) s) s := by
  w_on
  w_strict k_steps
  all_goals exact rz1_intro (by assumption) (by assumption) (by assumption) (by k_mem) (fun _ hB => ⟨⟨_, hB (TM, _) (by k_mem), by assumption, by assumption⟩, hB (n1, _) (by k_mem), _, _, _, hB (d1, _) (by k_mem)⟩)
theorem exp_ot_ok_e
    (N : News h₀ L s.heap [(B, instObj 121 DB), (DB, bD w q1 q2 q3 (.int c ct) tN MS), (MS, oMS), (TM, oTM), (n1, instObj 170 d1), (d1, nD w u1 u2 u3 tp1 (Str.ofString "")), (n2, instObj 170 d2), (d2, nD w y1 y2 y3 tp2 (Str.ofString "")), (x, ox)])
    (hM : oMS.IsDictOf (strKind prg w) kM) (lM : (MS == sysModules) = false)
    (hT : oTM.IsDictOf (strKind prg w) kT) (lT : (TM == sysModules) = false)
    (hlt : DB < B ∧ B < MS ∧ MS < TM ∧ TM < d1 ∧ d1 < n1 ∧ n1 < d2 ∧ d2 < n2)
    (hx : x ≠ TM ∧ x ≠ DB ∧ x ≠ d1 ∧ x ≠ d2)
    (lm : ((mod.length : Int) != 0) = true) (lm2 : mod.length ≤ 1000) (hkM : kM.length ≤ 1000) (hc : 0 ≤ c ∧ c < 1000)
    (hkT : kT.length ≤ 900)
    (v1 : valueAt kM mod = some (.ref TM))
    (v2 : valueAt kT (Str.ofString "one") = none)
    (v3 : valueAt (stored kT (Str.ofString "one") (.ref n1)) (Str.ofString "two") = none) :
    wpAny (model prg w) (callerA.deeper (envLaw fa L)) (call (.ref 111) [.ref B, .str mod t1] [((Str.ofString "one"), .ref n1), ((Str.ofString "two"), .ref n2)]) (Ok1 h₀ L m x ox (fun v h => v = .none ∧ DIs w h TM (stored (stored kT (Str.ofString "one") (.ref n1)) (Str.ofString "two") (.ref n2)) ∧ BIs w h DB MS (c + 1) ∧ NIs w h n1 d1 tp1 (Str.ofString "one") ∧ NIs w h n2 d2 tp2 (Str.ofString "two")) (fun _ _ => True) s) (Rz1 h₀ fa L m C x ox PE s) s := by
  w_on
  w_strict k_steps
  all_goals exact ok1_intro (by assumption) (by assumption) (by k_mem) ⟨rfl, ⟨_, News.get (by assumption) (by k_mem), by assumption, by assumption⟩, ⟨_, _, _, _, _, News.get (by assumption) (by k_mem)⟩, ⟨News.get (by assumption) (by k_mem), _, _, _, News.get (by assumption) (by k_mem)⟩, ⟨News.get (by assumption) (by k_mem), _, _, _, News.get (by assumption) (by k_mem)⟩⟩ trivial
theorem exp_ot_ok_l
    (N : News h₀ L s.heap [(B, instObj 121 DB), (DB, bD w q1 q2 q3 (.int c ct) tN MS), (MS, oMS), (TM, oTM), (n1, instObj 170 d1), (d1, nD w u1 u2 u3 tp1 lab), (n2, instObj 170 d2), (d2, nD w y1 y2 y3 tp2 lab2), (x, ox)])
    (hM : oMS.IsDictOf (strKind prg w) kM) (lM : (MS == sysModules) = false)
    (hT : oTM.IsDictOf (strKind prg w) kT) (lT : (TM == sysModules) = false)
    (hlt : DB < B ∧ B < MS ∧ MS < TM ∧ TM < d1 ∧ d1 < n1 ∧ n1 < d2 ∧ d2 < n2)
    (hx : x ≠ TM ∧ x ≠ DB ∧ x ≠ d1 ∧ x ≠ d2)
    (lm : ((mod.length : Int) != 0) = true) (lm2 : mod.length ≤ 1000) (hkM : kM.length ≤ 1000) (hc : 0 ≤ c ∧ c < 1000)
    (hkT : kT.length ≤ 900)
    (zlab : ((lab.length : Int) != 0) = true) (ylab : lab.length ≤ 1000)
    (zlab2 : ((lab2.length : Int) != 0) = true) (ylab2 : lab2.length ≤ 1000)
    (v1 : valueAt kM mod = some (.ref TM))
    (v2 : valueAt kT (Str.ofString "one") = none)
    (v3 : valueAt (stored kT lab (.ref n1)) (Str.ofString "two") = none) :
    wpAny (model prg w) (callerA.deeper (envLaw fa L)) (call (.ref 111) [.ref B, .str mod t1] [((Str.ofString "one"), .ref n1), ((Str.ofString "two"), .ref n2)]) (Ok1 h₀ L m x ox (fun v h => v = .none ∧ DIs w h TM (stored (stored kT lab (.ref n1)) lab2 (.ref n2)) ∧ BIs w h DB MS (c + 1) ∧ NIs w h n1 d1 tp1 lab ∧ NIs w h n2 d2 tp2 lab2) (fun _ _ => True) s) (Rz1 h₀ fa L m C x ox PE s) s := by
  w_on
  w_strict k_steps
  all_goals exact ok1_intro (by assumption) (by assumption) (by k_mem) ⟨rfl, ⟨_, News.get (by assumption) (by k_mem), by assumption, by assumption⟩, ⟨_, _, _, _, _, News.get (by assumption) (by k_mem)⟩, ⟨News.get (by assumption) (by k_mem), _, _, _, News.get (by assumption) (by k_mem)⟩, ⟨News.get (by assumption) (by k_mem), _, _, _, News.get (by assumption) (by k_mem)⟩⟩ trivial
end
end Mine
namespace Mine
section
variable {w : World} {s : Shared} {h₀ : Heap} {fa L B DB MS TM x nd nd2 : Nat} {m mg mb : Str → Option Value} {loose : List Str} {mean : ExcName → Option Value} {oMS oTM ox : Obj} {t1 t2 t3 : Tok} {mod nm nm2 : Str} {kM kT : List (Str × Value)}
    {q1 q2 q3 : Tok} {c : Int} {ct : Tok} {tN : Value} {C : Addr} {PE : Heap → Prop} {PO : Value → Heap → Prop} {RO : Addr → Heap → Prop}
    (X : (hd.heap_39 w.params).In h₀) (T : Top topProg loose mean mg mb h₀) (Bl : Below callerA h₀ [] h₀) (F : Fr h₀ L s.heap m)
include X T Bl F
theorem un_0_no
    (N : News h₀ L s.heap [(B, instObj 121 DB), (DB, bD w q1 q2 q3 (.int c ct) tN MS), (MS, oMS), (x, ox)])
    (hM : oMS.IsDictOf (strKind prg w) kM) (lM : (MS == sysModules) = false)
    (hlt : DB < B ∧ B < MS)
    (lm2 : mod.length ≤ 1000)  (hkM : kM.length ≤ 1000) (hkT : kT.length ≤ 1000) (hc : 0 ≤ c ∧ c < 1000)
    (v1 : valueAt kM mod = none) :
    wpAny (model prg w) (callerA.deeper (envLaw fa L)) (call (.ref 118) [.ref B, .str mod t1]) (Ok1 h₀ L m x ox PO RO s) (Rz1 h₀ fa L m 50 x ox (fun _ => True) s) s := by
  w_on
  w_strict k_steps
  all_goals exact rz1_intro (by assumption) (by assumption) (by assumption) (by k_mem) (fun _ _ => trivial)
theorem un_1_no
    (N : News h₀ L s.heap [(B, instObj 121 DB), (DB, bD w q1 q2 q3 (.int c ct) tN MS), (MS, oMS), (x, ox)])
    (hM : oMS.IsDictOf (strKind prg w) kM) (lM : (MS == sysModules) = false)
    (hlt : DB < B ∧ B < MS)
    (lm2 : mod.length ≤ 1000) (lnm : nm.length ≤ 1000) (hkM : kM.length ≤ 1000) (hkT : kT.length ≤ 1000) (hc : 0 ≤ c ∧ c < 1000)
    (v1 : valueAt kM mod = none) :
    wpAny (model prg w) (callerA.deeper (envLaw fa L)) (call (.ref 118) [.ref B, .str mod t1, .str nm t2]) (Ok1 h₀ L m x ox PO RO s) (Rz1 h₀ fa L m 50 x ox (fun _ => True) s) s := by
  w_on
  w_strict k_steps
  all_goals exact rz1_intro (by assumption) (by assumption) (by assumption) (by k_mem) (fun _ _ => trivial)
theorem un_1_r1
    (N : News h₀ L s.heap [(B, instObj 121 DB), (DB, bD w q1 q2 q3 (.int c ct) tN MS), (MS, oMS), (TM, oTM), (x, ox)])
    (hM : oMS.IsDictOf (strKind prg w) kM) (lM : (MS == sysModules) = false)
    (hT : oTM.IsDictOf (strKind prg w) kT) (lT : (TM == sysModules) = false)
    (hlt : DB < B ∧ B < MS ∧ MS < TM)
    (lm2 : mod.length ≤ 1000) (lnm : nm.length ≤ 1000) (hkM : kM.length ≤ 1000) (hkT : kT.length ≤ 1000) (hc : 0 ≤ c ∧ c < 1000)
    (v1 : valueAt kM mod = some (.ref TM))
    (v2 : valueAt kT nm = none) :
    wpAny (model prg w) (callerA.deeper (envLaw fa L)) (call (.ref 118) [.ref B, .str mod t1, .str nm t2]) (Ok1 h₀ L m x ox PO RO s) (Rz1 h₀ fa L m 50 x ox (fun _ => True) s) s := by
  w_on
  w_strict k_steps
  all_goals exact rz1_intro (by assumption) (by assumption) (by assumption) (by k_mem) (fun _ _ => trivial)
theorem un_1_left
    (N : News h₀ L s.heap [(B, instObj 121 DB), (DB, bD w q1 q2 q3 (.int c ct) tN MS), (MS, oMS), (TM, oTM), (x, ox)])
    (hM : oMS.IsDictOf (strKind prg w) kM) (lM : (MS == sysModules) = false)
    (hT : oTM.IsDictOf (strKind prg w) kT) (lT : (TM == sysModules) = false)
    (hlt : DB < B ∧ B < MS ∧ MS < TM)
    (hx : x ≠ TM ∧ x ≠ DB)
    (lm2 : mod.length ≤ 1000) (lnm : nm.length ≤ 1000) (hkM : kM.length ≤ 1000) (hkT : kT.length ≤ 1000) (hc : 0 ≤ c ∧ c < 1000)
    (v1 : valueAt kM mod = some (.ref TM))
    (v2 : valueAt kT nm = some (.ref nd))
    (ne : (without kT nm) ≠ []) :
    wpAny (model prg w) (callerA.deeper (envLaw fa L)) (call (.ref 118) [.ref B, .str mod t1, .str nm t2]) (Ok1 h₀ L m x ox (fun v h => v = .none ∧ DIs w h TM (without kT nm) ∧ BIs w h DB MS (c + 1)) (fun _ _ => True) s) (Rz1 h₀ fa L m C x ox PE s) s := by
  w_on
  w_strict k_steps
  all_goals exact ok1_intro (by assumption) (by assumption) (by k_mem) ⟨rfl, ⟨_, News.get (by assumption) (by k_mem), by assumption, by assumption⟩, ⟨_, _, _, _, _, News.get (by assumption) (by k_mem)⟩⟩ trivial
theorem un_1_empty
    (N : News h₀ L s.heap [(B, instObj 121 DB), (DB, bD w q1 q2 q3 (.int c ct) tN MS), (MS, oMS), (TM, oTM), (x, ox)])
    (hM : oMS.IsDictOf (strKind prg w) kM) (lM : (MS == sysModules) = false)
    (hT : oTM.IsDictOf (strKind prg w) kT) (lT : (TM == sysModules) = false)
    (hlt : DB < B ∧ B < MS ∧ MS < TM)
    (hx : x ≠ TM ∧ x ≠ MS ∧ x ≠ DB)
    (lm2 : mod.length ≤ 1000) (lnm : nm.length ≤ 1000) (hkM : kM.length ≤ 1000) (hkT : kT.length ≤ 1000) (hc : 0 ≤ c ∧ c < 1000)
    (v1 : valueAt kM mod = some (.ref TM))
    (v2 : valueAt kT nm = some (.ref nd))
    (ne : (without kT nm) = []) :
    wpAny (model prg w) (callerA.deeper (envLaw fa L)) (call (.ref 118) [.ref B, .str mod t1, .str nm t2]) (Ok1 h₀ L m x ox (fun v h => v = .none ∧ DIs w h MS (without kM mod) ∧ BIs w h DB MS (c + 1)) (fun _ _ => True) s) (Rz1 h₀ fa L m C x ox PE s) s := by
  w_on
  w_strict k_steps
  all_goals exact ok1_intro (by assumption) (by assumption) (by k_mem) ⟨rfl, ⟨_, News.get (by assumption) (by k_mem), by assumption, by assumption⟩, ⟨_, _, _, _, _, News.get (by assumption) (by k_mem)⟩⟩ trivial
theorem un_2_no
    (N : News h₀ L s.heap [(B, instObj 121 DB), (DB, bD w q1 q2 q3 (.int c ct) tN MS), (MS, oMS), (x, ox)])
    (hM : oMS.IsDictOf (strKind prg w) kM) (lM : (MS == sysModules) = false)
    (hlt : DB < B ∧ B < MS)
    (lm2 : mod.length ≤ 1000) (lnm : nm.length ≤ 1000) (lnm2 : nm2.length ≤ 1000) (hkM : kM.length ≤ 1000) (hkT : kT.length ≤ 1000) (hc : 0 ≤ c ∧ c < 1000)
    (v1 : valueAt kM mod = none) :
    wpAny (model prg w) (callerA.deeper (envLaw fa L)) (call (.ref 118) [.ref B, .str mod t1, .str nm t2, .str nm2 t3]) (Ok1 h₀ L m x ox PO RO s) (Rz1 h₀ fa L m 50 x ox (fun _ => True) s) s := by
  w_on
  w_strict k_steps
  all_goals exact rz1_intro (by assumption) (by assumption) (by assumption) (by k_mem) (fun _ _ => trivial)
theorem un_2_r1
    (N : News h₀ L s.heap [(B, instObj 121 DB), (DB, bD w q1 q2 q3 (.int c ct) tN MS), (MS, oMS), (TM, oTM), (x, ox)])
    (hM : oMS.IsDictOf (strKind prg w) kM) (lM : (MS == sysModules) = false)
    (hT : oTM.IsDictOf (strKind prg w) kT) (lT : (TM == sysModules) = false)
    (hlt : DB < B ∧ B < MS ∧ MS < TM)
    (lm2 : mod.length ≤ 1000) (lnm : nm.length ≤ 1000) (lnm2 : nm2.length ≤ 1000) (hkM : kM.length ≤ 1000) (hkT : kT.length ≤ 1000) (hc : 0 ≤ c ∧ c < 1000)
    (v1 : valueAt kM mod = some (.ref TM))
    (v2 : valueAt kT nm = none) :
    wpAny (model prg w) (callerA.deeper (envLaw fa L)) (call (.ref 118) [.ref B, .str mod t1, .str nm t2, .str nm2 t3]) (Ok1 h₀ L m x ox PO RO s) (Rz1 h₀ fa L m 50 x ox (fun _ => True) s) s := by
  w_on
  w_strict k_steps
  all_goals exact rz1_intro (by assumption) (by assumption) (by assumption) (by k_mem) (fun _ _ => trivial)
theorem un_2_r2
    (N : News h₀ L s.heap [(B, instObj 121 DB), (DB, bD w q1 q2 q3 (.int c ct) tN MS), (MS, oMS), (TM, oTM), (x, ox)])
    (hM : oMS.IsDictOf (strKind prg w) kM) (lM : (MS == sysModules) = false)
    (hT : oTM.IsDictOf (strKind prg w) kT) (lT : (TM == sysModules) = false)
    (hlt : DB < B ∧ B < MS ∧ MS < TM)
    (hx : x ≠ TM)
    (lm2 : mod.length ≤ 1000) (lnm : nm.length ≤ 1000) (lnm2 : nm2.length ≤ 1000) (hkM : kM.length ≤ 1000) (hkT : kT.length ≤ 1000) (hc : 0 ≤ c ∧ c < 1000)
    (v1 : valueAt kM mod = some (.ref TM))
    (v2 : valueAt kT nm = some (.ref nd))
    (v3 : valueAt (without kT nm) nm2 = none) :
    wpAny (model prg w) (callerA.deeper (envLaw fa L)) (call (.ref 118) [.ref B, .str mod t1, .str nm t2, .str nm2 t3]) (Ok1 h₀ L m x ox PO RO s) (Rz1 h₀ fa L m 50 x ox (fun h => DIs w h TM (without kT nm)) s) s := by
  w_on
  w_strict k_steps
  all_goals exact rz1_intro (by assumption) (by assumption) (by assumption) (by k_mem) (fun _ hB => ⟨_, hB (TM, _) (by k_mem), by assumption, by assumption⟩)
theorem un_2_left
    (N : News h₀ L s.heap [(B, instObj 121 DB), (DB, bD w q1 q2 q3 (.int c ct) tN MS), (MS, oMS), (TM, oTM), (x, ox)])
    (hM : oMS.IsDictOf (strKind prg w) kM) (lM : (MS == sysModules) = false)
    (hT : oTM.IsDictOf (strKind prg w) kT) (lT : (TM == sysModules) = false)
    (hlt : DB < B ∧ B < MS ∧ MS < TM)
    (hx : x ≠ TM ∧ x ≠ DB)
    (lm2 : mod.length ≤ 1000) (lnm : nm.length ≤ 1000) (lnm2 : nm2.length ≤ 1000) (hkM : kM.length ≤ 1000) (hkT : kT.length ≤ 1000) (hc : 0 ≤ c ∧ c < 1000)
    (v1 : valueAt kM mod = some (.ref TM))
    (v2 : valueAt kT nm = some (.ref nd))
    (v3 : valueAt (without kT nm) nm2 = some (.ref nd2))
    (ne : (without (without kT nm) nm2) ≠ []) :
    wpAny (model prg w) (callerA.deeper (envLaw fa L)) (call (.ref 118) [.ref B, .str mod t1, .str nm t2, .str nm2 t3]) (Ok1 h₀ L m x ox (fun v h => v = .none ∧ DIs w h TM (without (without kT nm) nm2) ∧ BIs w h DB MS (c + 1)) (fun _ _ => True) s) (Rz1 h₀ fa L m C x ox PE s) s := by
  w_on
  w_strict k_steps
  all_goals exact ok1_intro (by assumption) (by assumption) (by k_mem) ⟨rfl, ⟨_, News.get (by assumption) (by k_mem), by assumption, by assumption⟩, ⟨_, _, _, _, _, News.get (by assumption) (by k_mem)⟩⟩ trivial
theorem un_2_empty
    (N : News h₀ L s.heap [(B, instObj 121 DB), (DB, bD w q1 q2 q3 (.int c ct) tN MS), (MS, oMS), (TM, oTM), (x, ox)])
    (hM : oMS.IsDictOf (strKind prg w) kM) (lM : (MS == sysModules) = false)
    (hT : oTM.IsDictOf (strKind prg w) kT) (lT : (TM == sysModules) = false)
    (hlt : DB < B ∧ B < MS ∧ MS < TM)
    (hx : x ≠ TM ∧ x ≠ MS ∧ x ≠ DB)
    (lm2 : mod.length ≤ 1000) (lnm : nm.length ≤ 1000) (lnm2 : nm2.length ≤ 1000) (hkM : kM.length ≤ 1000) (hkT : kT.length ≤ 1000) (hc : 0 ≤ c ∧ c < 1000)
    (v1 : valueAt kM mod = some (.ref TM))
    (v2 : valueAt kT nm = some (.ref nd))
    (v3 : valueAt (without kT nm) nm2 = some (.ref nd2))
    (ne : (without (without kT nm) nm2) = []) :
    wpAny (model prg w) (callerA.deeper (envLaw fa L)) (call (.ref 118) [.ref B, .str mod t1, .str nm t2, .str nm2 t3]) (Ok1 h₀ L m x ox (fun v h => v = .none ∧ DIs w h MS (without kM mod) ∧ BIs w h DB MS (c + 1)) (fun _ _ => True) s) (Rz1 h₀ fa L m C x ox PE s) s := by
  w_on
  w_strict k_steps
  all_goals exact ok1_intro (by assumption) (by assumption) (by k_mem) ⟨rfl, ⟨_, News.get (by assumption) (by k_mem), by assumption, by assumption⟩, ⟨_, _, _, _, _, News.get (by assumption) (by k_mem)⟩⟩ trivial
end
end Mine
namespace Mine
section
variable {w : World} {s : Shared} {h₀ : Heap} {fa L B DB MS TM x nd nd2 : Nat} {m mg mb : Str → Option Value} {loose : List Str} {mean : ExcName → Option Value} {oMS oTM ox : Obj} {t1 t2 t3 : Tok} {mod nm nm2 : Str} {kM kT : List (Str × Value)}
    {q1 q2 q3 : Tok} {c : Int} {ct : Tok} {tN : Value} {C : Addr} {PE : Heap → Prop} {PO : Value → Heap → Prop} {RO : Addr → Heap → Prop}
    (X : (hd.heap_39 w.params).In h₀) (T : Top topProg loose mean mg mb h₀) (Bl : Below callerA h₀ [] h₀) (F : Fr h₀ L s.heap m)
include X T Bl F
theorem un_0_left
    (N : News h₀ L s.heap [(B, instObj 121 DB), (DB, bD w q1 q2 q3 (.int c ct) tN MS), (MS, oMS), (TM, oTM), (x, ox)])
    (hM : oMS.IsDictOf (strKind prg w) kM) (lM : (MS == sysModules) = false)
    (hT : oTM.IsDictOf (strKind prg w) kT) (lT : (TM == sysModules) = false)
    (hlt : DB < B ∧ B < MS ∧ MS < TM) (hx : x ≠ DB ∧ x ≠ MS ∧ x ≠ TM)
    (lm2 : mod.length ≤ 1000) (hkM : kM.length ≤ 1000) (hkT : kT.length ≤ 1000) (hc : 0 ≤ c ∧ c < 1000)
    (v1 : valueAt kM mod = some (.ref TM)) (nd : (kT.map (·.1)).Nodup) :
    wpAny (model prg w) (callerA.deeper (envLaw fa L)) (call (.ref 118) [.ref B, .str mod t1]) (Ok1 h₀ L m x ox (fun v h => v = .none ∧ DIs w h MS (without kM mod) ∧ BIs w h DB MS (c + 1)) (fun _ _ => True) s) (Rz1 h₀ fa L m C x ox PE s) s := by
  w_on
  w_strict k_steps
  all_goals first
    | exact ok1_intro (by assumption) (by assumption) (by k_mem) ⟨rfl, ⟨_, News.get (by assumption) (by k_mem), by assumption, by assumption⟩, ⟨_, _, _, _, _, News.get (by assumption) (by k_mem)⟩⟩ trivial
    | exact st1_intro (by assumption) (by assumption) (by k_mem) ⟨rfl, rfl, _, News.get (by assumption) (by k_mem), by assumption⟩
end
end Mine
namespace Mine
def lawBody : List Stmt := match mainBody.getLast? with
  | some (.FunctionDef _ _ body ..) => body
  | _ => []
def turnBody : List Stmt := match lawBody with
  | _ :: _ :: .For _ _ body _ _ :: _ => body
  | _ => []
def drawObj (fa L : Addr) (dc pm : Value) (cc : Addr) (ct : Value) : Obj := match lawBody with
  | .FunctionDef n ps body _ _ _ sc .. :: _ => fnMade n (qualnameIn (envLaw fa L) n n) ps body sc [(Str.ofString "script", L + 1)] dc pm cc ct
  | _ => { cls := .none, data := .plain }
def nth (l : List Stmt) (i : Nat) : Stmt := match l.drop i with
  | s :: _ => s
  | _ => .Pass default
def ifB (s : Stmt) : List Stmt := match s with
  | .If _ b .. => b
  | _ => []
def ifE (s : Stmt) : List Stmt := match s with
  | .If _ _ b .. => b
  | _ => []
def forB (s : Stmt) : List Stmt := match s with
  | .For _ _ b .. => b
  | _ => []
def forT (s : Stmt) : PySem.Expr := match s with
  | .For t .. => t
  | _ => .Constant .none 0 default
/-- the turn's statements: i, in the export branch, in the unexport branch -/
@[irreducible] def tst (i : Nat) : Stmt := nth turnBody i
@[irreducible] def est (i : Nat) : Stmt := nth (ifB (tst 3)) i
@[irreducible] def ust (i : Nat) : Stmt := nth (ifE (tst 3)) i
def CIs (h : Heap) (c : Addr) (v : Value) : Prop := ∃ o, h.get? c = some o ∧ o.data = .cell (some v)
theorem fr_chain {h₀ h : Heap} {L : Addr} {m : Str → Option Value} {a : Str} {v : Value} (F : Fr h₀ L h m) (e : m a = some v) : Fr h₀ L h (fun y => if y = a then some v else m y) := by
  have : (fun y => if y = a then some v else m y) = m := by
    funext y; by_cases q : y = a
    · subst q; simp [e]
    · simp [q]
  rw [this]; exact F
theorem chain_eq {m : Str → Option Value} {y a : Str} {v : Value} {r : Option Value} (h : r = m y) (e : m a = some v) : (if y = a then some v else r) = m y := by
  by_cases q : y = a
  · subst q; rw [if_pos rfl, e]
  · rw [if_neg q, h]
theorem l_ne (s : Str) : Str.ofString "l" ++ s ≠ Str.ofString "" := fun h => by
  have h1 : (Str.ofString "l" ++ s).cps.size = 0 := by rw [h]; decide +kernel
  have h2 : (Str.ofString "l" ++ s).cps.size = (Str.ofString "l").cps.size + s.cps.size := Array.size_append
  have h3 : (Str.ofString "l").cps.size = 1 := by decide +kernel
  omega
open PyProof.Rows in
theorem mod_ab (dr : Int) : Str.ofString "M" ++ Txt.item (Str.ofString "ab") (Int.fmod dr 2) = Str.ofString "Ma" ∨ Str.ofString "M" ++ Txt.item (Str.ofString "ab") (Int.fmod dr 2) = Str.ofString "Mb" := by
  have h0 := Int.fmod_nonneg_of_pos dr (by decide : (0:Int) < 2)
  have h1 := Int.fmod_lt_of_pos dr (by decide : (0:Int) < 2)
  have h : Int.fmod dr 2 = 0 ∨ Int.fmod dr 2 = 1 := by omega
  rcases h with h | h <;> rw [h]
  · exact .inl (by decide +kernel)
  · exact .inr (by decide +kernel)
end Mine
namespace Mine
def forI (s : Stmt) : PySem.Expr := match s with
  | .For _ i .. => i
  | _ => .Constant .none 0 default
def ifT (s : Stmt) : PySem.Expr := match s with
  | .If t .. => t
  | _ => .Constant .none 0 default
/-- the two sides of the comparison that a statement stores -/
def cmpL (s : Stmt) : PySem.Expr := match s with
  | .Assign _ (.Compare l _ _ _) _ => l
  | _ => .Constant .none 0 default
def cmpR (s : Stmt) : PySem.Expr := match s with
  | .Assign _ (.Compare _ _ (r :: _) _) _ => r
  | _ => .Constant .none 0 default
/-- tst 6: the two comprehensions; a comprehension's element, source, scope -/
@[irreducible] def t6L : PySem.Expr := match tst 6 with
  | .If (.Compare l _ _ _) .. => l
  | _ => .Constant .none 0 default
@[irreducible] def t6R : PySem.Expr := match tst 6 with
  | .If (.Compare _ _ (r :: _) _) .. => r
  | _ => .Constant .none 0 default
def lcE (e : PySem.Expr) : PySem.Expr := match e with
  | .ListComp elt .. => elt
  | _ => .Constant .none 0 default
def lcI (e : PySem.Expr) : PySem.Expr := match e with
  | .ListComp _ [⟨_, i, _, _⟩] .. => i
  | _ => .Constant .none 0 default
def lcS (e : PySem.Expr) : Scope := match e with
  | .ListComp _ _ sc .. => sc
  | _ => default
@[irreducible] def t7b (i : Nat) : Stmt := nth (forB (tst 7)) i
@[irreducible] def t7c (i : Nat) : Stmt := nth (forB (t7b 1)) i
/-- the law's loop runs from 0 up to n: the object at R is range(n) -/
def RgIs (h : Heap) (R : Addr) (n : Int) : Prop := ∃ t u v, IsRange h R 0 n 1 t u v
theorem fm12 (a : Int) : 1 ≤ 1 + Int.fmod a 12 ∧ 1 + Int.fmod a 12 ≤ 12 := by
  have h0 := Int.fmod_nonneg_of_pos a (by decide : (0:Int) < 12)
  have h1 := Int.fmod_lt_of_pos a (by decide : (0:Int) < 12)
  omega
end Mine
namespace Mine
section
variable {w : World} {s : Shared} {h₀ : Heap} {fa L B DB MS TM x nd nd2 f cc sc P PT TB NM NO LB n1 d1 tp1 n2 d2 tp2 TT : Nat} {m mg mb : Str → Option Value} {loose : List Str} {mean : ExcName → Option Value} {oMS oTM oPT oTB ox oS oB oP oK oD oT oc on1 od1 on2 od2 : Obj} {cN cO cL : Nat} {vT : Option Value} {tk t1 t2 t3 t4 t5 tq : Tok} {mod nm nm2 lab lab2 a b : Str} {kM kT kP kV : List (Str × Value)}
    {dc pm ct : Value} {vs : List Value} {ns : List Int} {k dr deed c : Int} {vsc : Array Value} {vD : Option Value} {E : Value → Shared → Prop} {q1 q2 q3 u1 u2 u3 y1 y2 y3 : Tok} {tN : Value}
    (X : (hd.heap_39 w.params).In h₀) (T : Top topProg loose mean mg mb h₀) (Bl : Below callerA h₀ [] h₀)
include X T Bl
theorem st0 (ch : CodeHd h₀ 185 183) (F : Fr h₀ L s.heap m)
    (N : News h₀ L s.heap [(f, drawObj fa L dc pm cc ct), (cc, oc), (L+1, oS), (L+1+1+1+1, oK), (L+1+1+1+1+1, oD), (x, ox)])
    (d1 : oc.data = .fields vsc) (d2 : vsc[1]? = some (.str (qualnameIn (envLaw fa L) (Str.ofString "draw") (Str.ofString "draw")) tq))
    (hS : oS.data = .cell (some (.ref sc))) (hK : oK.data = .cell (some (.int k tk))) (hD : oD.data = .cell vD) (hk : 0 ≤ k ∧ k < 12)
    (hlt : L+1+1+1+1+1 < cc ∧ cc < f) (hl : h₀.IsList sc vs.toArray) (hi : IntsAre vs ns) (hlen : ¬ ((63 : Int) < (ns.length : Int)))
    (hxD : x ≠ L+1+1+1+1+1)
    (l0 : m (Str.ofString "draw") = some (.ref f)) :
    wpAny (model prg w) (callerA.deeper (envLaw fa L)) (exec (tst 0) (envLaw fa L)) (St1 h₀ L x ox (fun f m' h' => f = .next ∧ (∃ d t, m' (Str.ofString "deed") = some (.int d t)) ∧ (∀ y, y ≠ (Str.ofString "deed") → m' y = m y) ∧ ∃ dr t, CIs h' (L+1+1+1+1+1) (.int dr t)) s) E s := by
  (try unfold t7c); (try unfold t7b); (try unfold t6L); (try unfold t6R); (try unfold est); (try unfold ust); (try unfold tst)
  have F := fr_chain F l0
  unfold envLaw at *
  conv at N => pattern (drawObj _ _ _ _ _ _); whnf
  conv => enter [3, 1]; whnf
  conv => pattern (occs := *) lawScope; all_goals whnf
  w_on
  w_strict k_steps
  all_goals exact st1_intro (by assumption) (by assumption) (by k_mem) ⟨rfl, ⟨_, _, if_pos rfl⟩, (fun y hy => (if_neg hy).trans ((chain_eq rfl l0))), _, _, ⟨_, News.get (by assumption) (by k_mem), by assumption⟩⟩
end
end Mine
namespace Mine
section
variable {w : World} {s : Shared} {h₀ : Heap} {fa L B DB MS TM x nd nd2 f cc sc P PT TB NM NO LB n1 d1 tp1 n2 d2 tp2 TT : Nat} {m mg mb : Str → Option Value} {loose : List Str} {mean : ExcName → Option Value} {oMS oTM oPT oTB ox oS oB oP oK oD oT oc on1 od1 on2 od2 : Obj} {cN cO cL : Nat} {vT : Option Value} {tk t1 t2 t3 t4 t5 tq : Tok} {mod nm nm2 lab lab2 a b : Str} {kM kT kP kV : List (Str × Value)}
    {dc pm ct : Value} {vs : List Value} {ns : List Int} {k dr deed c : Int} {vsc : Array Value} {vD : Option Value} {E : Value → Shared → Prop} {q1 q2 q3 u1 u2 u3 y1 y2 y3 : Tok} {tN : Value}
    (X : (hd.heap_39 w.params).In h₀) (T : Top topProg loose mean mg mb h₀) (Bl : Below callerA h₀ [] h₀)
include X T Bl
theorem st1 (F : Fr h₀ L s.heap m)
    (N : News h₀ L s.heap [(L+1+1+1+1+1, oD), (x, ox)])
    (hD : oD.data = .cell (some (.int dr t1))) :
    wpAny (model prg w) (callerA.deeper (envLaw fa L)) (exec (tst 1) (envLaw fa L)) (St1 h₀ L x ox (fun f m' h' => f = .next ∧ (∃ mod t, m' (Str.ofString "module") = some (.str mod t) ∧ (mod = (Str.ofString "Ma") ∨ mod = (Str.ofString "Mb"))) ∧ (∃ t, m' (Str.ofString "told") = some (.str (Str.ofString "done") t)) ∧ (∃ t, m' (Str.ofString "due") = some (.str (Str.ofString "done") t)) ∧ (∀ y, y ≠ (Str.ofString "module") ∧ y ≠ (Str.ofString "told") ∧ y ≠ (Str.ofString "due") → m' y = m y)) s) E s := by
  (try unfold t7c); (try unfold t7b); (try unfold t6L); (try unfold t6R); (try unfold est); (try unfold ust); (try unfold tst)
  unfold envLaw at *
  conv => enter [3, 1]; whnf
  conv => pattern (occs := *) lawScope; all_goals whnf
  w_on
  w_strict k_steps
  all_goals exact st1_intro (by assumption) (by assumption) (by k_mem) ⟨rfl, ⟨_, _, if_pos rfl, mod_ab _⟩, ⟨_, (if_neg (by decide +kernel)).trans (if_pos rfl)⟩, ⟨_, (if_neg (by decide +kernel)).trans ((if_neg (by decide +kernel)).trans (if_pos rfl))⟩, (fun y hy => (if_neg hy.1).trans ((if_neg hy.2.1).trans ((if_neg hy.2.2).trans (rfl))))⟩

theorem st2_none (F : Fr h₀ L s.heap m)
    (N : News h₀ L s.heap [(L+1+1+1, oP), (L+1+1+1+1+1+1, oT), (P, oPT), (x, ox)])
    (hP : oP.data = .cell (some (.ref P)))
    (hT : oT.data = .cell vT) (hPT : oPT.IsDictOf (strKind prg w) kP) (lP : (P == sysModules) = false) (lk : kP.length ≤ 1000) (v1 : valueAt kP mod = none)
    (hlt : L+1+1+1+1+1+1 < P)
    (hxD : x ≠ L+1+1+1+1+1+1)
    (l0 : m (Str.ofString "module") = some (.str mod t1)) :
    wpAny (model prg w) (callerA.deeper (envLaw fa L)) (exec (tst 2) (envLaw fa L)) (St1 h₀ L x ox (fun f m' h' => f = .next ∧ (∀ y, m' y = m y) ∧ ∃ TB : Nat, CIs h' (L+1+1+1+1+1+1) (.ref TB) ∧ DIs w h' TB [] ∧ P < TB ∧ x < TB) s) E s := by
  (try unfold t7c); (try unfold t7b); (try unfold t6L); (try unfold t6R); (try unfold est); (try unfold ust); (try unfold tst)
  have F := fr_chain F l0
  unfold envLaw at *
  conv => enter [3, 1]; whnf
  conv => pattern (occs := *) lawScope; all_goals whnf
  w_on
  w_strict k_steps
  all_goals exact st1_intro (by assumption) (by assumption) (by k_mem) ⟨rfl, (fun y => (chain_eq rfl l0)), _, ⟨_, News.get (by assumption) (by k_mem), by assumption⟩, ⟨_, News.get (by assumption) (by k_mem), by assumption, by assumption⟩, by omega, by omega⟩

theorem st2_some (F : Fr h₀ L s.heap m)
    (N : News h₀ L s.heap [(L+1+1+1, oP), (L+1+1+1+1+1+1, oT), (P, oPT), (PT, oTB), (x, ox)])
    (hP : oP.data = .cell (some (.ref P)))
    (hT : oT.data = .cell vT) (hPT : oPT.IsDictOf (strKind prg w) kP) (lP : (P == sysModules) = false) (lk : kP.length ≤ 1000) (v1 : valueAt kP mod = some (.ref PT)) (hTB : oTB.IsDictOf (strKind prg w) kT) (lT : (PT == sysModules) = false) (hkT : kT.length ≤ 1000)
    (hlt : L+1+1+1+1+1+1 < P ∧ P < PT)
    (hxD : x ≠ L+1+1+1+1+1+1)
    (l0 : m (Str.ofString "module") = some (.str mod t1)) :
    wpAny (model prg w) (callerA.deeper (envLaw fa L)) (exec (tst 2) (envLaw fa L)) (St1 h₀ L x ox (fun f m' h' => f = .next ∧ (∀ y, m' y = m y) ∧ ∃ TB : Nat, CIs h' (L+1+1+1+1+1+1) (.ref TB) ∧ DIs w h' TB kT ∧ P < TB ∧ x < TB) s) E s := by
  (try unfold t7c); (try unfold t7b); (try unfold t6L); (try unfold t6R); (try unfold est); (try unfold ust); (try unfold tst)
  have F := fr_chain F l0
  unfold envLaw at *
  conv => enter [3, 1]; whnf
  conv => pattern (occs := *) lawScope; all_goals whnf
  w_on
  w_strict k_steps
  all_goals exact st1_intro (by assumption) (by assumption) (by k_mem) ⟨rfl, (fun y => (chain_eq rfl l0)), _, ⟨_, News.get (by assumption) (by k_mem), by assumption⟩, ⟨_, News.get (by assumption) (by k_mem), by assumption, by assumption⟩, by omega, by omega⟩

theorem st4_done (F : Fr h₀ L s.heap m)
    (N : News h₀ L s.heap [(x, ox)])
    (hc : 0 ≤ c ∧ c < 1000)
    (l0 : m (Str.ofString "changes") = some (.int c t1))
    (l1 : m (Str.ofString "due") = some (.str (Str.ofString "done") t2)) :
    wpAny (model prg w) (callerA.deeper (envLaw fa L)) (exec (tst 4) (envLaw fa L)) (St1 h₀ L x ox (fun f m' h' => f = .next ∧ (∃ t, m' (Str.ofString "changes") = some (.int (c + 1) t)) ∧ (∀ y, y ≠ (Str.ofString "changes") → m' y = m y)) s) E s := by
  (try unfold t7c); (try unfold t7b); (try unfold t6L); (try unfold t6R); (try unfold est); (try unfold ust); (try unfold tst)
  have F := fr_chain F l0
  have F := fr_chain F ((chain_eq rfl l0).trans l1)
  unfold envLaw at *
  conv => enter [3, 1]; whnf
  conv => pattern (occs := *) lawScope; all_goals whnf
  w_on
  w_strict k_steps
  all_goals exact st1_intro (by assumption) (by assumption) (by k_mem) ⟨rfl, ⟨_, if_pos rfl⟩, (fun y hy => (if_neg hy).trans ((chain_eq (chain_eq rfl l0) l1)))⟩

theorem st4_ref (F : Fr h₀ L s.heap m)
    (N : News h₀ L s.heap [(x, ox)])
    (hc : 0 ≤ c ∧ c < 1000)
    (l0 : m (Str.ofString "changes") = some (.int c t1))
    (l1 : m (Str.ofString "due") = some (.str (Str.ofString "refused") t2)) :
    wpAny (model prg w) (callerA.deeper (envLaw fa L)) (exec (tst 4) (envLaw fa L)) (St1 h₀ L x ox (fun f m' h' => f = .next ∧ (∃ t, m' (Str.ofString "changes") = some (.int (c + 0) t)) ∧ (∀ y, y ≠ (Str.ofString "changes") → m' y = m y)) s) E s := by
  (try unfold t7c); (try unfold t7b); (try unfold t6L); (try unfold t6R); (try unfold est); (try unfold ust); (try unfold tst)
  have F := fr_chain F l0
  have F := fr_chain F ((chain_eq rfl l0).trans l1)
  unfold envLaw at *
  conv => enter [3, 1]; whnf
  conv => pattern (occs := *) lawScope; all_goals whnf
  w_on
  w_strict k_steps
  all_goals exact st1_intro (by assumption) (by assumption) (by k_mem) ⟨rfl, ⟨_, if_pos rfl⟩, (fun y hy => (if_neg hy).trans ((chain_eq (chain_eq rfl l0) l1)))⟩
end
end Mine
namespace Mine
section
variable {w : World} {s : Shared} {h₀ : Heap} {fa L B DB MS TM x nd nd2 f cc sc P PT TB NM NO LB n1 d1 tp1 n2 d2 tp2 TT : Nat} {m mg mb : Str → Option Value} {loose : List Str} {mean : ExcName → Option Value} {oMS oTM oPT oTB ox oS oB oP oK oD oT oc on1 od1 on2 od2 : Obj} {cN cO cL : Nat} {vT : Option Value} {tk t1 t2 t3 t4 t5 tq : Tok} {mod nm nm2 lab lab2 a b : Str} {kM kT kP kV : List (Str × Value)}
    {dc pm ct : Value} {vs : List Value} {ns : List Int} {k dr deed c : Int} {vsc : Array Value} {vD : Option Value} {E : Value → Shared → Prop} {q1 q2 q3 u1 u2 u3 y1 y2 y3 : Tok} {tN : Value}
    (X : (hd.heap_39 w.params).In h₀) (T : Top topProg loose mean mg mb h₀) (Bl : Below callerA h₀ [] h₀)
include X T Bl
theorem est0 (F : Fr h₀ L s.heap m)
    (N : News h₀ L s.heap [(L+1+1+1+1+1, oD), (x, ox)])
    (hD : oD.data = .cell (some (.int dr t1))) :
    wpAny (model prg w) (callerA.deeper (envLaw fa L)) (exec (est 0) (envLaw fa L)) (St1 h₀ L x ox (fun f m' h' => f = .next ∧ (∀ y, y ≠ (Str.ofString "names") → m' y = m y) ∧ ∃ NM : Nat, m' (Str.ofString "names") = some (.ref NM) ∧ x < NM ∧ ((∃ n t, h'.get? NM = some (W.listOf #[.str (Str.ofString "one") t] n)) ∨ (∃ n t, h'.get? NM = some (W.listOf #[.str (Str.ofString "two") t] n)) ∨ (∃ n t t', h'.get? NM = some (W.listOf #[.str (Str.ofString "one") t, .str (Str.ofString "two") t'] n)))) s) E s := by
  (try unfold t7c); (try unfold t7b); (try unfold t6L); (try unfold t6R); (try unfold est); (try unfold ust); (try unfold tst)
  unfold envLaw at *
  conv => enter [3, 1]; whnf
  conv => pattern (occs := *) lawScope; all_goals whnf
  w_on
  w_strict k_steps
  all_goals first
    | exact st1_intro (by assumption) (by assumption) (by k_mem) ⟨rfl, (fun y hy => (if_neg hy).trans (rfl)), _, if_pos rfl, by omega, .inl ⟨_, _, News.get (by assumption) (by k_mem)⟩⟩
    | exact st1_intro (by assumption) (by assumption) (by k_mem) ⟨rfl, (fun y hy => (if_neg hy).trans (rfl)), _, if_pos rfl, by omega, .inr (.inl ⟨_, _, News.get (by assumption) (by k_mem)⟩)⟩
    | exact st1_intro (by assumption) (by assumption) (by k_mem) ⟨rfl, (fun y hy => (if_neg hy).trans (rfl)), _, if_pos rfl, by omega, .inr (.inr ⟨_, _, _, News.get (by assumption) (by k_mem)⟩)⟩

theorem est2_one (F : Fr h₀ L s.heap m)
    (N : News h₀ L s.heap [(NO, W.listOf #[.ref n1] cO), (n1, instObj 170 d1), (d1, nD w u1 u2 u3 tp1 lab), (x, ox)])
    (l0 : m (Str.ofString "nodes") = some (.ref NO)) :
    wpAny (model prg w) (callerA.deeper (envLaw fa L)) (exec (est 2) (envLaw fa L)) (St1 h₀ L x ox (fun f m' h' => f = .next ∧ (∀ y, y ≠ (Str.ofString "labels") → m' y = m y) ∧ ∃ LB : Nat, m' (Str.ofString "labels") = some (.ref LB) ∧ x ≠ LB ∧ ∃ n t, News h₀ L h' [(LB, W.listOf #[.str lab t] n)]) s) E s := by
  (try unfold t7c); (try unfold t7b); (try unfold t6L); (try unfold t6R); (try unfold est); (try unfold ust); (try unfold tst)
  have F := fr_chain F l0
  unfold envLaw at *
  conv => enter [3, 1]; whnf
  conv => pattern (occs := *) lawScope; all_goals whnf
  w_on
  w_strict k_steps
  all_goals exact st1_intro (by assumption) (by assumption) (by k_mem) ⟨rfl, (fun y hy => (if_neg hy).trans ((chain_eq rfl l0))), _, if_pos rfl, by omega, _, _, news_of (by assumption) (by k_mem)⟩

theorem est4_o (F : Fr h₀ L s.heap m)
    (N : News h₀ L s.heap [(L+1+1, oB), (B, instObj 121 DB), (DB, bD w q1 q2 q3 (.int c t5) tN MS), (MS, oMS), (TM, oTM), (n1, on1), (d1, od1), (n2, on2), (d2, od2), (NM, W.listOf #[.str (Str.ofString "one") t4] cN), (NO, W.listOf #[.ref n1] cO), (x, ox)])
    (hB : oB.data = .cell (some (.ref B)))
    (hlt : L+1+1 < DB ∧ DB < B)
    {PO : Value → Heap → Prop} {RO : Addr → Heap → Prop} {Qe : Obj → Obj → Prop} {a1 a2 : Addr} (xl : Mine2 h₀ L x a1 a2) (HC : Hook w (callerA.deeper (envLaw fa L)) h₀ L (.ref 111) [.ref B, .str mod t1] [((Str.ofString "one"), .ref n1)] [(B, instObj 121 DB), (DB, bD w q1 q2 q3 (.int c t5) tN MS), (MS, oMS), (TM, oTM), (n1, on1), (d1, od1), (n2, on2), (d2, od2), (x, ox)] (fun m s => Ok1 h₀ L m x ox PO RO s) (fun m s => Rz1 h₀ fa L m 50 x ox (PQ a1 a2 Qe) s))
    (l0 : m (Str.ofString "names") = some (.ref NM))
    (l1 : m (Str.ofString "nodes") = some (.ref NO))
    (l2 : m (Str.ofString "module") = some (.str mod t1))
    (l3 : m (Str.ofString "told") = some (.str (Str.ofString "done") t2)) :
    wpAny (model prg w) (callerA.deeper (envLaw fa L)) (exec (est 4) (envLaw fa L)) (St1 h₀ L x ox (fun f m' h' => f = .next ∧ ((∃ v, PO v h' ∧ RO x h' ∧ (∀ y, m' y = m y)) ∨ (PQ a1 a2 Qe h' ∧ (∃ t, m' (Str.ofString "told") = some (.str (Str.ofString "refused") t)) ∧ (∀ y, y ≠ (Str.ofString "told") → m' y = m y)))) s) E s := by
  (try unfold t7c); (try unfold t7b); (try unfold t6L); (try unfold t6R); (try unfold est); (try unfold ust); (try unfold tst)
  have F := fr_chain F l0
  have F := fr_chain F ((chain_eq rfl l0).trans l1)
  have F := fr_chain F ((chain_eq (chain_eq rfl l0) l1).trans l2)
  have F := fr_chain F ((chain_eq (chain_eq (chain_eq rfl l0) l1) l2).trans l3)
  unfold envLaw at *
  conv => enter [3, 1]; whnf
  conv => pattern (occs := *) lawScope; all_goals whnf
  w_on
  w_strict k_steps
  all_goals first
    | exact st1_intro (by assumption) (by assumption) (by k_mem) ⟨rfl, .inl ⟨_, by assumption, by assumption, (fun y => (chain_eq (chain_eq (chain_eq (chain_eq rfl l0) l1) l2) l3))⟩⟩
    | exact st1_intro (by assumption) (by assumption) (by k_mem) ⟨rfl, .inr ⟨⟨_, _, News.get (by assumption) (.tail _ (.head _)), News.get (by assumption) (.tail _ (.tail _ (.head _))), by assumption⟩, ⟨_, if_pos rfl⟩, (fun y hy => (if_neg hy).trans ((chain_eq (chain_eq (chain_eq (chain_eq rfl l0) l1) l2) l3)))⟩⟩

theorem est4_t (F : Fr h₀ L s.heap m)
    (N : News h₀ L s.heap [(L+1+1, oB), (B, instObj 121 DB), (DB, bD w q1 q2 q3 (.int c t5) tN MS), (MS, oMS), (TM, oTM), (n1, on1), (d1, od1), (n2, on2), (d2, od2), (NM, W.listOf #[.str (Str.ofString "two") t4] cN), (NO, W.listOf #[.ref n1] cO), (x, ox)])
    (hB : oB.data = .cell (some (.ref B)))
    (hlt : L+1+1 < DB ∧ DB < B)
    {PO : Value → Heap → Prop} {RO : Addr → Heap → Prop} {Qe : Obj → Obj → Prop} {a1 a2 : Addr} (xl : Mine2 h₀ L x a1 a2) (HC : Hook w (callerA.deeper (envLaw fa L)) h₀ L (.ref 111) [.ref B, .str mod t1] [((Str.ofString "two"), .ref n1)] [(B, instObj 121 DB), (DB, bD w q1 q2 q3 (.int c t5) tN MS), (MS, oMS), (TM, oTM), (n1, on1), (d1, od1), (n2, on2), (d2, od2), (x, ox)] (fun m s => Ok1 h₀ L m x ox PO RO s) (fun m s => Rz1 h₀ fa L m 50 x ox (PQ a1 a2 Qe) s))
    (l0 : m (Str.ofString "names") = some (.ref NM))
    (l1 : m (Str.ofString "nodes") = some (.ref NO))
    (l2 : m (Str.ofString "module") = some (.str mod t1))
    (l3 : m (Str.ofString "told") = some (.str (Str.ofString "done") t2)) :
    wpAny (model prg w) (callerA.deeper (envLaw fa L)) (exec (est 4) (envLaw fa L)) (St1 h₀ L x ox (fun f m' h' => f = .next ∧ ((∃ v, PO v h' ∧ RO x h' ∧ (∀ y, m' y = m y)) ∨ (PQ a1 a2 Qe h' ∧ (∃ t, m' (Str.ofString "told") = some (.str (Str.ofString "refused") t)) ∧ (∀ y, y ≠ (Str.ofString "told") → m' y = m y)))) s) E s := by
  (try unfold t7c); (try unfold t7b); (try unfold t6L); (try unfold t6R); (try unfold est); (try unfold ust); (try unfold tst)
  have F := fr_chain F l0
  have F := fr_chain F ((chain_eq rfl l0).trans l1)
  have F := fr_chain F ((chain_eq (chain_eq rfl l0) l1).trans l2)
  have F := fr_chain F ((chain_eq (chain_eq (chain_eq rfl l0) l1) l2).trans l3)
  unfold envLaw at *
  conv => enter [3, 1]; whnf
  conv => pattern (occs := *) lawScope; all_goals whnf
  w_on
  w_strict k_steps
  all_goals first
    | exact st1_intro (by assumption) (by assumption) (by k_mem) ⟨rfl, .inl ⟨_, by assumption, by assumption, (fun y => (chain_eq (chain_eq (chain_eq (chain_eq rfl l0) l1) l2) l3))⟩⟩
    | exact st1_intro (by assumption) (by assumption) (by k_mem) ⟨rfl, .inr ⟨⟨_, _, News.get (by assumption) (.tail _ (.head _)), News.get (by assumption) (.tail _ (.tail _ (.head _))), by assumption⟩, ⟨_, if_pos rfl⟩, (fun y hy => (if_neg hy).trans ((chain_eq (chain_eq (chain_eq (chain_eq rfl l0) l1) l2) l3)))⟩⟩

theorem est4_b (F : Fr h₀ L s.heap m)
    (N : News h₀ L s.heap [(L+1+1, oB), (B, instObj 121 DB), (DB, bD w q1 q2 q3 (.int c t5) tN MS), (MS, oMS), (TM, oTM), (n1, on1), (d1, od1), (n2, on2), (d2, od2), (NM, W.listOf #[.str (Str.ofString "one") t4, .str (Str.ofString "two") t3] cN), (NO, W.listOf #[.ref n1, .ref n2] cO), (x, ox)])
    (hB : oB.data = .cell (some (.ref B)))
    (hlt : L+1+1 < DB ∧ DB < B)
    {PO : Value → Heap → Prop} {RO : Addr → Heap → Prop} {Qe : Obj → Obj → Prop} {a1 a2 : Addr} (xl : Mine2 h₀ L x a1 a2) (HC : Hook w (callerA.deeper (envLaw fa L)) h₀ L (.ref 111) [.ref B, .str mod t1] [((Str.ofString "one"), .ref n1), ((Str.ofString "two"), .ref n2)] [(B, instObj 121 DB), (DB, bD w q1 q2 q3 (.int c t5) tN MS), (MS, oMS), (TM, oTM), (n1, on1), (d1, od1), (n2, on2), (d2, od2), (x, ox)] (fun m s => Ok1 h₀ L m x ox PO RO s) (fun m s => Rz1 h₀ fa L m 50 x ox (PQ a1 a2 Qe) s))
    (l0 : m (Str.ofString "names") = some (.ref NM))
    (l1 : m (Str.ofString "nodes") = some (.ref NO))
    (l2 : m (Str.ofString "module") = some (.str mod t1))
    (l3 : m (Str.ofString "told") = some (.str (Str.ofString "done") t2)) :
    wpAny (model prg w) (callerA.deeper (envLaw fa L)) (exec (est 4) (envLaw fa L)) (St1 h₀ L x ox (fun f m' h' => f = .next ∧ ((∃ v, PO v h' ∧ RO x h' ∧ (∀ y, m' y = m y)) ∨ (PQ a1 a2 Qe h' ∧ (∃ t, m' (Str.ofString "told") = some (.str (Str.ofString "refused") t)) ∧ (∀ y, y ≠ (Str.ofString "told") → m' y = m y)))) s) E s := by
  (try unfold t7c); (try unfold t7b); (try unfold t6L); (try unfold t6R); (try unfold est); (try unfold ust); (try unfold tst)
  have F := fr_chain F l0
  have F := fr_chain F ((chain_eq rfl l0).trans l1)
  have F := fr_chain F ((chain_eq (chain_eq rfl l0) l1).trans l2)
  have F := fr_chain F ((chain_eq (chain_eq (chain_eq rfl l0) l1) l2).trans l3)
  unfold envLaw at *
  conv => enter [3, 1]; whnf
  conv => pattern (occs := *) lawScope; all_goals whnf
  w_on
  w_strict k_steps
  all_goals first
    | exact st1_intro (by assumption) (by assumption) (by k_mem) ⟨rfl, .inl ⟨_, by assumption, by assumption, (fun y => (chain_eq (chain_eq (chain_eq (chain_eq rfl l0) l1) l2) l3))⟩⟩
    | exact st1_intro (by assumption) (by assumption) (by k_mem) ⟨rfl, .inr ⟨⟨_, _, News.get (by assumption) (.tail _ (.head _)), News.get (by assumption) (.tail _ (.tail _ (.head _))), by assumption⟩, ⟨_, if_pos rfl⟩, (fun y hy => (if_neg hy).trans ((chain_eq (chain_eq (chain_eq (chain_eq rfl l0) l1) l2) l3)))⟩⟩
end
end Mine
namespace Mine
section
variable {w : World} {s : Shared} {h₀ : Heap} {fa L B DB MS TM x nd nd2 f cc sc P PT TB NM NO LB n1 d1 tp1 n2 d2 tp2 TT : Nat} {m mg mb : Str → Option Value} {loose : List Str} {mean : ExcName → Option Value} {oMS oTM oPT oTB ox oS oB oP oK oD oT oc on1 od1 on2 od2 : Obj} {cN cO cL : Nat} {vT : Option Value} {tk t1 t2 t3 t4 t5 tq : Tok} {mod nm nm2 lab lab2 a b : Str} {kM kT kP kV : List (Str × Value)}
    {dc pm ct : Value} {vs : List Value} {ns : List Int} {k dr deed c : Int} {vsc : Array Value} {vD : Option Value} {E : Value → Shared → Prop} {q1 q2 q3 u1 u2 u3 y1 y2 y3 : Tok} {tN : Value}
    (X : (hd.heap_39 w.params).In h₀) (T : Top topProg loose mean mg mb h₀) (Bl : Below callerA h₀ [] h₀)
include X T Bl
theorem e3_in (F : Fr h₀ L s.heap m)
    (N : News h₀ L s.heap [(TT, ({ cls := .type "tuple", data := .seq #[.str a t4, .ref n1, .str lab t5] } : Obj)), (L+1+1+1+1+1+1, oT), (TB, oTB), (n1, instObj 170 d1), (d1, nD w u1 u2 u3 tp1 lab), (x, ox)])
    (hT : oT.data = .cell (some (.ref TB)))
    (hTB : oTB.IsDictOf (strKind prg w) kT) (lT : (TB == sysModules) = false) (hkT : kT.length ≤ 1000) (v1 : valueAt kT a = some tN)
    (hlt : L+1+1+1+1+1+1 < TB ∧ TB < d1 ∧ d1 < n1 ∧ n1 < TT)
    (l0 : m (Str.ofString "due") = some (.str (Str.ofString "done") t2)) :
    wpAny (model prg w) (callerA.deeper (envLaw fa L)) (assign (forT (est 3)) (envLaw fa L) (.ref TT)) (fun _ s₂ => wpAny (model prg w) (callerA.deeper (envLaw fa L)) (execs (forB (est 3)) (envLaw fa L)) (St1 h₀ L x ox (fun f m' h' => f = .next ∧ DIs w h' TB kT ∧ (∃ t, m' (Str.ofString "due") = some (.str (Str.ofString "refused") t)) ∧ (∀ y, y ≠ (Str.ofString "label") ∧ y ≠ (Str.ofString "node") ∧ y ≠ (Str.ofString "name") ∧ y ≠ (Str.ofString "due") → m' y = m y)) s) E s₂) E s := by
  (try unfold t7c); (try unfold t7b); (try unfold t6L); (try unfold t6R); (try unfold est); (try unfold ust); (try unfold tst)
  have F := fr_chain F l0
  unfold envLaw at *
  conv => pattern (forT _); whnf
  conv => pattern (forB _); whnf
  conv => pattern (occs := *) lawScope; all_goals whnf
  w_on
  w_strict k_steps
  all_goals first
    | (exfalso; cases zl.symm.trans (by assumption : _ = false))
    | exact st1_intro (by assumption) (by assumption) (by k_mem) ⟨rfl, ⟨_, News.get (by assumption) (by k_mem), by assumption, by assumption⟩, ⟨_, by first | exact if_pos rfl | exact (if_neg (by decide +kernel)).trans ((if_neg (by decide +kernel)).trans ((if_neg (by decide +kernel)).trans (if_pos rfl)))⟩, fun y hy => by (repeat' split) <;> simp_all⟩

theorem e3_e (F : Fr h₀ L s.heap m)
    (N : News h₀ L s.heap [(TT, ({ cls := .type "tuple", data := .seq #[.str a t4, .ref n1, .str (Str.ofString "") t5] } : Obj)), (L+1+1+1+1+1+1, oT), (TB, oTB), (n1, instObj 170 d1), (d1, nD w u1 u2 u3 tp1 (Str.ofString "")), (x, ox)])
    (hT : oT.data = .cell (some (.ref TB)))
    (hTB : oTB.IsDictOf (strKind prg w) kT) (lT : (TB == sysModules) = false) (hkT : kT.length ≤ 1000) (v1 : valueAt kT a = none)
    (hlt : L+1+1+1+1+1+1 < TB ∧ TB < d1 ∧ d1 < n1 ∧ n1 < TT)
    (hxD : x ≠ TB)
    (l0 : m (Str.ofString "due") = some (.str (Str.ofString "done") t2)) :
    wpAny (model prg w) (callerA.deeper (envLaw fa L)) (assign (forT (est 3)) (envLaw fa L) (.ref TT)) (fun _ s₂ => wpAny (model prg w) (callerA.deeper (envLaw fa L)) (execs (forB (est 3)) (envLaw fa L)) (St1 h₀ L x ox (fun f m' h' => f = .next ∧ DIs w h' TB (stored kT a (.ref tp1)) ∧ (∃ t, m' (Str.ofString "due") = some (.str (Str.ofString "done") t)) ∧ (∀ y, y ≠ (Str.ofString "label") ∧ y ≠ (Str.ofString "node") ∧ y ≠ (Str.ofString "name") → m' y = m y)) s) E s₂) E s := by
  (try unfold t7c); (try unfold t7b); (try unfold t6L); (try unfold t6R); (try unfold est); (try unfold ust); (try unfold tst)
  have F := fr_chain F l0
  unfold envLaw at *
  conv => pattern (forT _); whnf
  conv => pattern (forB _); whnf
  conv => pattern (occs := *) lawScope; all_goals whnf
  w_on
  w_strict k_steps
  all_goals first
    | (exfalso; cases zl.symm.trans (by assumption : _ = false))
    | exact st1_intro (by assumption) (by assumption) (by k_mem) ⟨rfl, ⟨_, News.get (by assumption) (by k_mem), by assumption, by assumption⟩, ⟨_, by first | exact if_pos rfl | exact (if_neg (by decide +kernel)).trans ((if_neg (by decide +kernel)).trans ((if_neg (by decide +kernel)).trans (if_pos rfl)))⟩, fun y hy => by (repeat' split) <;> simp_all⟩

theorem e3_l (F : Fr h₀ L s.heap m)
    (N : News h₀ L s.heap [(TT, ({ cls := .type "tuple", data := .seq #[.str a t4, .ref n1, .str lab t5] } : Obj)), (L+1+1+1+1+1+1, oT), (TB, oTB), (n1, instObj 170 d1), (d1, nD w u1 u2 u3 tp1 lab), (x, ox)])
    (hT : oT.data = .cell (some (.ref TB)))
    (hTB : oTB.IsDictOf (strKind prg w) kT) (lT : (TB == sysModules) = false) (hkT : kT.length ≤ 1000) (v1 : valueAt kT a = none) (zl : (lab != Str.ofString "") = true) (yl : lab.length ≤ 1000)
    (hlt : L+1+1+1+1+1+1 < TB ∧ TB < d1 ∧ d1 < n1 ∧ n1 < TT)
    (hxD : x ≠ TB)
    (l0 : m (Str.ofString "due") = some (.str (Str.ofString "done") t2)) :
    wpAny (model prg w) (callerA.deeper (envLaw fa L)) (assign (forT (est 3)) (envLaw fa L) (.ref TT)) (fun _ s₂ => wpAny (model prg w) (callerA.deeper (envLaw fa L)) (execs (forB (est 3)) (envLaw fa L)) (St1 h₀ L x ox (fun f m' h' => f = .next ∧ DIs w h' TB (stored kT lab (.ref tp1)) ∧ (∃ t, m' (Str.ofString "due") = some (.str (Str.ofString "done") t)) ∧ (∀ y, y ≠ (Str.ofString "label") ∧ y ≠ (Str.ofString "node") ∧ y ≠ (Str.ofString "name") → m' y = m y)) s) E s₂) E s := by
  (try unfold t7c); (try unfold t7b); (try unfold t6L); (try unfold t6R); (try unfold est); (try unfold ust); (try unfold tst)
  have F := fr_chain F l0
  unfold envLaw at *
  conv => pattern (forT _); whnf
  conv => pattern (forB _); whnf
  conv => pattern (occs := *) lawScope; all_goals whnf
  w_on
  w_strict k_steps
  all_goals first
    | (exfalso; cases zl.symm.trans (by assumption : _ = false))
    | exact st1_intro (by assumption) (by assumption) (by k_mem) ⟨rfl, ⟨_, News.get (by assumption) (by k_mem), by assumption, by assumption⟩, ⟨_, by first | exact if_pos rfl | exact (if_neg (by decide +kernel)).trans ((if_neg (by decide +kernel)).trans ((if_neg (by decide +kernel)).trans (if_pos rfl)))⟩, fun y hy => by (repeat' split) <;> simp_all⟩

theorem e3_ref (F : Fr h₀ L s.heap m)
    (N : News h₀ L s.heap [(TT, ({ cls := .type "tuple", data := .seq #[.str a t4, .ref n1, .str lab t5] } : Obj)), (L+1+1+1+1+1+1, oT), (TB, oTB), (n1, instObj 170 d1), (d1, nD w u1 u2 u3 tp1 lab), (x, ox)])
    (hT : oT.data = .cell (some (.ref TB)))
    (hTB : oTB.IsDictOf (strKind prg w) kT) (lT : (TB == sysModules) = false) (hkT : kT.length ≤ 1000) 
    (hlt : L+1+1+1+1+1+1 < TB ∧ TB < d1 ∧ d1 < n1 ∧ n1 < TT)
    (l0 : m (Str.ofString "due") = some (.str (Str.ofString "refused") t2)) :
    wpAny (model prg w) (callerA.deeper (envLaw fa L)) (assign (forT (est 3)) (envLaw fa L) (.ref TT)) (fun _ s₂ => wpAny (model prg w) (callerA.deeper (envLaw fa L)) (execs (forB (est 3)) (envLaw fa L)) (St1 h₀ L x ox (fun f m' h' => f = .next ∧ DIs w h' TB kT ∧ (∃ t, m' (Str.ofString "due") = some (.str (Str.ofString "refused") t)) ∧ (∀ y, y ≠ (Str.ofString "label") ∧ y ≠ (Str.ofString "node") ∧ y ≠ (Str.ofString "name") ∧ y ≠ (Str.ofString "due") → m' y = m y)) s) E s₂) E s := by
  (try unfold t7c); (try unfold t7b); (try unfold t6L); (try unfold t6R); (try unfold est); (try unfold ust); (try unfold tst)
  have F := fr_chain F l0
  unfold envLaw at *
  conv => pattern (forT _); whnf
  conv => pattern (forB _); whnf
  conv => pattern (occs := *) lawScope; all_goals whnf
  w_on
  w_strict k_steps
  all_goals first
    | (exfalso; cases zl.symm.trans (by assumption : _ = false))
    | exact st1_intro (by assumption) (by assumption) (by k_mem) ⟨rfl, ⟨_, News.get (by assumption) (by k_mem), by assumption, by assumption⟩, ⟨_, by first | exact if_pos rfl | exact (if_neg (by decide +kernel)).trans ((if_neg (by decide +kernel)).trans ((if_neg (by decide +kernel)).trans (if_pos rfl)))⟩, fun y hy => by (repeat' split) <;> simp_all⟩
end
end Mine
namespace Mine
section
variable {w : World} {s : Shared} {h₀ : Heap} {fa L B DB MS TM x nd nd2 f cc sc P PT TB NM NO LB n1 d1 tp1 n2 d2 tp2 TT : Nat} {m mg mb : Str → Option Value} {loose : List Str} {mean : ExcName → Option Value} {oMS oTM oPT oTB ox oS oB oP oK oD oT oc on1 od1 on2 od2 : Obj} {cN cO cL : Nat} {vT : Option Value} {tk t1 t2 t3 t4 t5 tq : Tok} {mod nm nm2 lab lab2 a b : Str} {kM kT kP kV : List (Str × Value)}
    {dc pm ct : Value} {vs : List Value} {ns : List Int} {k dr deed c : Int} {vsc : Array Value} {vD : Option Value} {E : Value → Shared → Prop} {q1 q2 q3 u1 u2 u3 y1 y2 y3 : Tok} {tN : Value}
    (X : (hd.heap_39 w.params).In h₀) (T : Top topProg loose mean mg mb h₀) (Bl : Below callerA h₀ [] h₀)
include X T Bl
theorem ust0 (F : Fr h₀ L s.heap m)
    (N : News h₀ L s.heap [(L+1+1+1+1+1+1, oT), (TB, oTB), (x, ox)])
    (hT : oT.data = .cell (some (.ref TB)))
    (hTB : oTB.IsDictOf (strKind prg w) kT) (lT : (TB == sysModules) = false) (hkT : kT.length ≤ 1000)  :
    wpAny (model prg w) (callerA.deeper (envLaw fa L)) (exec (ust 0) (envLaw fa L)) (St1 h₀ L x ox (fun f m' h' => f = .next ∧ (∀ y, y ≠ (Str.ofString "here") → m' y = m y) ∧ ∃ LH : Nat, m' (Str.ofString "here") = some (.ref LH) ∧ x < LH ∧ ∃ n vs, SV vs (kT.map (·.1)) ∧ h'.get? LH = some (W.listOf vs.toArray n)) s) E s := by
  (try unfold t7c); (try unfold t7b); (try unfold t6L); (try unfold t6R); (try unfold est); (try unfold ust); (try unfold tst)
  unfold envLaw at *
  conv => enter [3, 1]; whnf
  conv => pattern (occs := *) lawScope; all_goals whnf
  w_on
  w_strict k_steps
  all_goals exact st1_intro (by assumption) (by assumption) (by k_mem) ⟨rfl, (fun y hy => (if_neg hy).trans (rfl)), _, if_pos rfl, by omega, _, _, by assumption, News.get (by assumption) (by k_mem)⟩

theorem ust2_some (F : Fr h₀ L s.heap m)
    (N : News h₀ L s.heap [(L+1+1+1, oP), (P, oPT), (x, ox)])
    (hP : oP.data = .cell (some (.ref P)))
    (hPT : oPT.IsDictOf (strKind prg w) kP) (lP : (P == sysModules) = false) (lk : kP.length ≤ 1000) (v1 : valueAt kP mod = some (.ref PT))
    (l0 : m (Str.ofString "module") = some (.str mod t1)) :
    wpAny (model prg w) (callerA.deeper (envLaw fa L)) (exec (ust 2) (envLaw fa L)) (St1 h₀ L x ox (fun f m' h' => f = .next ∧ (∃ t, m' (Str.ofString "due") = some (.str (Str.ofString "done") t)) ∧ (∀ y, y ≠ (Str.ofString "due") → m' y = m y)) s) E s := by
  (try unfold t7c); (try unfold t7b); (try unfold t6L); (try unfold t6R); (try unfold est); (try unfold ust); (try unfold tst)
  have F := fr_chain F l0
  unfold envLaw at *
  conv => enter [3, 1]; whnf
  conv => pattern (occs := *) lawScope; all_goals whnf
  w_on
  w_strict k_steps
  all_goals exact st1_intro (by assumption) (by assumption) (by k_mem) ⟨rfl, ⟨_, if_pos rfl⟩, (fun y hy => (if_neg hy).trans ((chain_eq rfl l0)))⟩

theorem ust2_none (F : Fr h₀ L s.heap m)
    (N : News h₀ L s.heap [(L+1+1+1, oP), (P, oPT), (x, ox)])
    (hP : oP.data = .cell (some (.ref P)))
    (hPT : oPT.IsDictOf (strKind prg w) kP) (lP : (P == sysModules) = false) (lk : kP.length ≤ 1000) (v1 : valueAt kP mod = none)
    (l0 : m (Str.ofString "module") = some (.str mod t1)) :
    wpAny (model prg w) (callerA.deeper (envLaw fa L)) (exec (ust 2) (envLaw fa L)) (St1 h₀ L x ox (fun f m' h' => f = .next ∧ (∃ t, m' (Str.ofString "due") = some (.str (Str.ofString "refused") t)) ∧ (∀ y, y ≠ (Str.ofString "due") → m' y = m y)) s) E s := by
  (try unfold t7c); (try unfold t7b); (try unfold t6L); (try unfold t6R); (try unfold est); (try unfold ust); (try unfold tst)
  have F := fr_chain F l0
  unfold envLaw at *
  conv => enter [3, 1]; whnf
  conv => pattern (occs := *) lawScope; all_goals whnf
  w_on
  w_strict k_steps
  all_goals exact st1_intro (by assumption) (by assumption) (by k_mem) ⟨rfl, ⟨_, if_pos rfl⟩, (fun y hy => (if_neg hy).trans ((chain_eq rfl l0)))⟩

theorem est6 (F : Fr h₀ L s.heap m)
    (N : News h₀ L s.heap [(L+1+1+1, oP), (L+1+1+1+1+1+1, oT), (P, oPT), (x, ox)])
    (hP : oP.data = .cell (some (.ref P)))
    (hT : oT.data = .cell (some (.ref TB)))
    (hPT : oPT.IsDictOf (strKind prg w) kP) (lP : (P == sysModules) = false) (lk : kP.length ≤ 1000) (hlt : L+1+1+1+1+1+1 < P)
    (hxD : x ≠ P)
    (l0 : m (Str.ofString "module") = some (.str mod t1)) :
    wpAny (model prg w) (callerA.deeper (envLaw fa L)) (exec (est 6) (envLaw fa L)) (St1 h₀ L x ox (fun f m' h' => f = .next ∧ (∀ y, m' y = m y) ∧ DIs w h' P (stored kP mod (.ref TB))) s) E s := by
  (try unfold t7c); (try unfold t7b); (try unfold t6L); (try unfold t6R); (try unfold est); (try unfold ust); (try unfold tst)
  have F := fr_chain F l0
  unfold envLaw at *
  conv => enter [3, 1]; whnf
  conv => pattern (occs := *) lawScope; all_goals whnf
  w_on
  w_strict k_steps
  all_goals exact st1_intro (by assumption) (by assumption) (by k_mem) ⟨rfl, (fun y => (chain_eq rfl l0)), ⟨_, News.get (by assumption) (by k_mem), by assumption, by assumption⟩⟩

theorem ust5_some (F : Fr h₀ L s.heap m)
    (N : News h₀ L s.heap [(L+1+1+1, oP), (L+1+1+1+1+1+1, oT), (P, oPT), (x, ox)])
    (hP : oP.data = .cell (some (.ref P)))
    (hT : oT.data = .cell (some (.ref TB)))
    (hPT : oPT.IsDictOf (strKind prg w) kP) (lP : (P == sysModules) = false) (lk : kP.length ≤ 1000) (v1 : valueAt kP mod = some (.ref PT)) (hlt : L+1+1+1+1+1+1 < P)
    (hxD : x ≠ P)
    (l0 : m (Str.ofString "module") = some (.str mod t1)) :
    wpAny (model prg w) (callerA.deeper (envLaw fa L)) (exec (ust 5) (envLaw fa L)) (St1 h₀ L x ox (fun f m' h' => f = .next ∧ (∀ y, m' y = m y) ∧ DIs w h' P (stored kP mod (.ref TB))) s) E s := by
  (try unfold t7c); (try unfold t7b); (try unfold t6L); (try unfold t6R); (try unfold est); (try unfold ust); (try unfold tst)
  have F := fr_chain F l0
  unfold envLaw at *
  conv => enter [3, 1]; whnf
  conv => pattern (occs := *) lawScope; all_goals whnf
  w_on
  w_strict k_steps
  all_goals exact st1_intro (by assumption) (by assumption) (by k_mem) ⟨rfl, (fun y => (chain_eq rfl l0)), ⟨_, News.get (by assumption) (by k_mem), by assumption, by assumption⟩⟩

theorem ust5_none (F : Fr h₀ L s.heap m)
    (N : News h₀ L s.heap [(L+1+1+1, oP), (L+1+1+1+1+1+1, oT), (P, oPT), (x, ox)])
    (hP : oP.data = .cell (some (.ref P)))
    (hT : oT.data = .cell (some (.ref TB)))
    (hPT : oPT.IsDictOf (strKind prg w) kP) (lP : (P == sysModules) = false) (lk : kP.length ≤ 1000) (v1 : valueAt kP mod = none)
    (l0 : m (Str.ofString "module") = some (.str mod t1)) :
    wpAny (model prg w) (callerA.deeper (envLaw fa L)) (exec (ust 5) (envLaw fa L)) (St1 h₀ L x ox (fun f m' h' => f = .next ∧ (∀ y, m' y = m y)) s) E s := by
  (try unfold t7c); (try unfold t7b); (try unfold t6L); (try unfold t6R); (try unfold est); (try unfold ust); (try unfold tst)
  have F := fr_chain F l0
  unfold envLaw at *
  conv => enter [3, 1]; whnf
  conv => pattern (occs := *) lawScope; all_goals whnf
  w_on
  w_strict k_steps
  all_goals exact st1_intro (by assumption) (by assumption) (by k_mem) ⟨rfl, (fun y => (chain_eq rfl l0))⟩

theorem ust6_pop (F : Fr h₀ L s.heap m)
    (N : News h₀ L s.heap [(L+1+1+1, oP), (L+1+1+1+1+1+1, oT), (P, oPT), (TB, oTB), (x, ox)])
    (hP : oP.data = .cell (some (.ref P)))
    (hT : oT.data = .cell (some (.ref TB)))
    (hPT : oPT.IsDictOf (strKind prg w) kP) (lP : (P == sysModules) = false) (lk : kP.length ≤ 1000) (hTB : oTB.IsDictOf (strKind prg w) kT) (lT : (TB == sysModules) = false) (hkT : kT.length ≤ 1000) (ne : kT = []) (v1 : valueAt kP mod = some (.ref PT)) (hlt : L+1+1+1+1+1+1 < P ∧ P < TB)
    (hxD : x ≠ P)
    (l0 : m (Str.ofString "module") = some (.str mod t1))
    (l1 : m (Str.ofString "due") = some (.str (Str.ofString "done") t2)) :
    wpAny (model prg w) (callerA.deeper (envLaw fa L)) (exec (ust 6) (envLaw fa L)) (St1 h₀ L x ox (fun f m' h' => f = .next ∧ (∀ y, m' y = m y) ∧ DIs w h' P (without kP mod)) s) E s := by
  (try unfold t7c); (try unfold t7b); (try unfold t6L); (try unfold t6R); (try unfold est); (try unfold ust); (try unfold tst)
  have F := fr_chain F l0
  have F := fr_chain F ((chain_eq rfl l0).trans l1)
  unfold envLaw at *
  conv => enter [3, 1]; whnf
  conv => pattern (occs := *) lawScope; all_goals whnf
  w_on
  w_strict k_steps
  all_goals exact st1_intro (by assumption) (by assumption) (by k_mem) ⟨rfl, (fun y => (chain_eq (chain_eq rfl l0) l1)), ⟨_, News.get (by assumption) (by k_mem), by assumption, by assumption⟩⟩

theorem ust6_left (F : Fr h₀ L s.heap m)
    (N : News h₀ L s.heap [(L+1+1+1, oP), (L+1+1+1+1+1+1, oT), (P, oPT), (TB, oTB), (x, ox)])
    (hP : oP.data = .cell (some (.ref P)))
    (hT : oT.data = .cell (some (.ref TB)))
    (hPT : oPT.IsDictOf (strKind prg w) kP) (lP : (P == sysModules) = false) (lk : kP.length ≤ 1000) (hTB : oTB.IsDictOf (strKind prg w) kT) (lT : (TB == sysModules) = false) (hkT : kT.length ≤ 1000) (ne : kT ≠ []) (hlt : L+1+1+1+1+1+1 < P ∧ P < TB)
    (l0 : m (Str.ofString "module") = some (.str mod t1))
    (l1 : m (Str.ofString "due") = some (.str (Str.ofString "done") t2)) :
    wpAny (model prg w) (callerA.deeper (envLaw fa L)) (exec (ust 6) (envLaw fa L)) (St1 h₀ L x ox (fun f m' h' => f = .next ∧ (∀ y, m' y = m y)) s) E s := by
  (try unfold t7c); (try unfold t7b); (try unfold t6L); (try unfold t6R); (try unfold est); (try unfold ust); (try unfold tst)
  have F := fr_chain F l0
  have F := fr_chain F ((chain_eq rfl l0).trans l1)
  unfold envLaw at *
  conv => enter [3, 1]; whnf
  conv => pattern (occs := *) lawScope; all_goals whnf
  w_on
  w_strict k_steps
  all_goals exact st1_intro (by assumption) (by assumption) (by k_mem) ⟨rfl, (fun y => (chain_eq (chain_eq rfl l0) l1))⟩

theorem ust6_ref (F : Fr h₀ L s.heap m)
    (N : News h₀ L s.heap [(L+1+1+1, oP), (L+1+1+1+1+1+1, oT), (P, oPT), (x, ox)])
    (hP : oP.data = .cell (some (.ref P)))
    (hT : oT.data = .cell (some (.ref TB)))
    (hPT : oPT.IsDictOf (strKind prg w) kP) (lP : (P == sysModules) = false) (lk : kP.length ≤ 1000) 
    (l0 : m (Str.ofString "due") = some (.str (Str.ofString "refused") t2)) :
    wpAny (model prg w) (callerA.deeper (envLaw fa L)) (exec (ust 6) (envLaw fa L)) (St1 h₀ L x ox (fun f m' h' => f = .next ∧ (∀ y, m' y = m y)) s) E s := by
  (try unfold t7c); (try unfold t7b); (try unfold t6L); (try unfold t6R); (try unfold est); (try unfold ust); (try unfold tst)
  have F := fr_chain F l0
  unfold envLaw at *
  conv => enter [3, 1]; whnf
  conv => pattern (occs := *) lawScope; all_goals whnf
  w_on
  w_strict k_steps
  all_goals exact st1_intro (by assumption) (by assumption) (by k_mem) ⟨rfl, (fun y => (chain_eq rfl l0))⟩
end
end Mine
namespace Mine
section
variable {w : World} {s : Shared} {h₀ : Heap} {fa L B DB MS TM x nd nd2 f cc sc P PT TB NM NO LB n1 d1 tp1 n2 d2 tp2 TT : Nat} {m mg mb : Str → Option Value} {loose : List Str} {mean : ExcName → Option Value} {oMS oTM oPT oTB ox oS oB oP oK oD oT oc on1 od1 on2 od2 : Obj} {cN cO cL : Nat} {vT : Option Value} {tk t1 t2 t3 t4 t5 tq : Tok} {mod nm nm2 lab lab2 a b : Str} {kM kT kP kV : List (Str × Value)}
    {dc pm ct : Value} {vs : List Value} {ns : List Int} {k dr deed c : Int} {vsc : Array Value} {vD : Option Value} {E : Value → Shared → Prop} {q1 q2 q3 u1 u2 u3 y1 y2 y3 : Tok} {tN : Value}
    (X : (hd.heap_39 w.params).In h₀) (T : Top topProg loose mean mg mb h₀) (Bl : Below callerA h₀ [] h₀)
include X T Bl
theorem ust4_0 (F : Fr h₀ L s.heap m)
    (N : News h₀ L s.heap [(L+1+1, oB), (B, instObj 121 DB), (DB, bD w q1 q2 q3 (.int c t5) tN MS), (MS, oMS), (TM, oTM), (NM, W.listOf #[] cN), (x, ox)])
    (hB : oB.data = .cell (some (.ref B)))
    (hlt : L+1+1 < DB ∧ DB < B)
    {PO : Value → Heap → Prop} {RO : Addr → Heap → Prop} {Qe : Obj → Obj → Prop} {a1 a2 : Addr} (xl : Mine2 h₀ L x a1 a2) (HC : Hook w (callerA.deeper (envLaw fa L)) h₀ L (.ref 118) [.ref B, .str mod t1] [] [(B, instObj 121 DB), (DB, bD w q1 q2 q3 (.int c t5) tN MS), (MS, oMS), (TM, oTM), (x, ox)] (fun m s => Ok1 h₀ L m x ox PO RO s) (fun m s => Rz1 h₀ fa L m 50 x ox (PQ a1 a2 Qe) s))
    (l0 : m (Str.ofString "names") = some (.ref NM))
    (l1 : m (Str.ofString "module") = some (.str mod t1))
    (l2 : m (Str.ofString "told") = some (.str (Str.ofString "done") t2)) :
    wpAny (model prg w) (callerA.deeper (envLaw fa L)) (exec (ust 4) (envLaw fa L)) (St1 h₀ L x ox (fun f m' h' => f = .next ∧ ((∃ v, PO v h' ∧ RO x h' ∧ (∀ y, m' y = m y)) ∨ (PQ a1 a2 Qe h' ∧ (∃ t, m' (Str.ofString "told") = some (.str (Str.ofString "refused") t)) ∧ (∀ y, y ≠ (Str.ofString "told") → m' y = m y)))) s) E s := by
  (try unfold t7c); (try unfold t7b); (try unfold t6L); (try unfold t6R); (try unfold est); (try unfold ust); (try unfold tst)
  have F := fr_chain F l0
  have F := fr_chain F ((chain_eq rfl l0).trans l1)
  have F := fr_chain F ((chain_eq (chain_eq rfl l0) l1).trans l2)
  unfold envLaw at *
  conv => enter [3, 1]; whnf
  conv => pattern (occs := *) lawScope; all_goals whnf
  w_on
  w_strict k_steps
  all_goals first
    | exact st1_intro (by assumption) (by assumption) (by k_mem) ⟨rfl, .inl ⟨_, by assumption, by assumption, (fun y => (chain_eq (chain_eq (chain_eq rfl l0) l1) l2))⟩⟩
    | exact st1_intro (by assumption) (by assumption) (by k_mem) ⟨rfl, .inr ⟨⟨_, _, News.get (by assumption) (.tail _ (.head _)), News.get (by assumption) (.tail _ (.tail _ (.head _))), by assumption⟩, ⟨_, if_pos rfl⟩, (fun y hy => (if_neg hy).trans ((chain_eq (chain_eq (chain_eq rfl l0) l1) l2)))⟩⟩

theorem ust4_1 (F : Fr h₀ L s.heap m)
    (N : News h₀ L s.heap [(L+1+1, oB), (B, instObj 121 DB), (DB, bD w q1 q2 q3 (.int c t5) tN MS), (MS, oMS), (TM, oTM), (NM, W.listOf #[.str nm t4] cN), (x, ox)])
    (hB : oB.data = .cell (some (.ref B)))
    (hlt : L+1+1 < DB ∧ DB < B)
    {PO : Value → Heap → Prop} {RO : Addr → Heap → Prop} {Qe : Obj → Obj → Prop} {a1 a2 : Addr} (xl : Mine2 h₀ L x a1 a2) (HC : Hook w (callerA.deeper (envLaw fa L)) h₀ L (.ref 118) [.ref B, .str mod t1, .str nm t4] [] [(B, instObj 121 DB), (DB, bD w q1 q2 q3 (.int c t5) tN MS), (MS, oMS), (TM, oTM), (x, ox)] (fun m s => Ok1 h₀ L m x ox PO RO s) (fun m s => Rz1 h₀ fa L m 50 x ox (PQ a1 a2 Qe) s))
    (l0 : m (Str.ofString "names") = some (.ref NM))
    (l1 : m (Str.ofString "module") = some (.str mod t1))
    (l2 : m (Str.ofString "told") = some (.str (Str.ofString "done") t2)) :
    wpAny (model prg w) (callerA.deeper (envLaw fa L)) (exec (ust 4) (envLaw fa L)) (St1 h₀ L x ox (fun f m' h' => f = .next ∧ ((∃ v, PO v h' ∧ RO x h' ∧ (∀ y, m' y = m y)) ∨ (PQ a1 a2 Qe h' ∧ (∃ t, m' (Str.ofString "told") = some (.str (Str.ofString "refused") t)) ∧ (∀ y, y ≠ (Str.ofString "told") → m' y = m y)))) s) E s := by
  (try unfold t7c); (try unfold t7b); (try unfold t6L); (try unfold t6R); (try unfold est); (try unfold ust); (try unfold tst)
  have F := fr_chain F l0
  have F := fr_chain F ((chain_eq rfl l0).trans l1)
  have F := fr_chain F ((chain_eq (chain_eq rfl l0) l1).trans l2)
  unfold envLaw at *
  conv => enter [3, 1]; whnf
  conv => pattern (occs := *) lawScope; all_goals whnf
  w_on
  w_strict k_steps
  all_goals first
    | exact st1_intro (by assumption) (by assumption) (by k_mem) ⟨rfl, .inl ⟨_, by assumption, by assumption, (fun y => (chain_eq (chain_eq (chain_eq rfl l0) l1) l2))⟩⟩
    | exact st1_intro (by assumption) (by assumption) (by k_mem) ⟨rfl, .inr ⟨⟨_, _, News.get (by assumption) (.tail _ (.head _)), News.get (by assumption) (.tail _ (.tail _ (.head _))), by assumption⟩, ⟨_, if_pos rfl⟩, (fun y hy => (if_neg hy).trans ((chain_eq (chain_eq (chain_eq rfl l0) l1) l2)))⟩⟩

theorem ust4_2 (F : Fr h₀ L s.heap m)
    (N : News h₀ L s.heap [(L+1+1, oB), (B, instObj 121 DB), (DB, bD w q1 q2 q3 (.int c t5) tN MS), (MS, oMS), (TM, oTM), (NM, W.listOf #[.str nm t4, .str nm2 t3] cN), (x, ox)])
    (hB : oB.data = .cell (some (.ref B)))
    (hlt : L+1+1 < DB ∧ DB < B)
    {PO : Value → Heap → Prop} {RO : Addr → Heap → Prop} {Qe : Obj → Obj → Prop} {a1 a2 : Addr} (xl : Mine2 h₀ L x a1 a2) (HC : Hook w (callerA.deeper (envLaw fa L)) h₀ L (.ref 118) [.ref B, .str mod t1, .str nm t4, .str nm2 t3] [] [(B, instObj 121 DB), (DB, bD w q1 q2 q3 (.int c t5) tN MS), (MS, oMS), (TM, oTM), (x, ox)] (fun m s => Ok1 h₀ L m x ox PO RO s) (fun m s => Rz1 h₀ fa L m 50 x ox (PQ a1 a2 Qe) s))
    (l0 : m (Str.ofString "names") = some (.ref NM))
    (l1 : m (Str.ofString "module") = some (.str mod t1))
    (l2 : m (Str.ofString "told") = some (.str (Str.ofString "done") t2)) :
    wpAny (model prg w) (callerA.deeper (envLaw fa L)) (exec (ust 4) (envLaw fa L)) (St1 h₀ L x ox (fun f m' h' => f = .next ∧ ((∃ v, PO v h' ∧ RO x h' ∧ (∀ y, m' y = m y)) ∨ (PQ a1 a2 Qe h' ∧ (∃ t, m' (Str.ofString "told") = some (.str (Str.ofString "refused") t)) ∧ (∀ y, y ≠ (Str.ofString "told") → m' y = m y)))) s) E s := by
  (try unfold t7c); (try unfold t7b); (try unfold t6L); (try unfold t6R); (try unfold est); (try unfold ust); (try unfold tst)
  have F := fr_chain F l0
  have F := fr_chain F ((chain_eq rfl l0).trans l1)
  have F := fr_chain F ((chain_eq (chain_eq rfl l0) l1).trans l2)
  unfold envLaw at *
  conv => enter [3, 1]; whnf
  conv => pattern (occs := *) lawScope; all_goals whnf
  w_on
  w_strict k_steps
  all_goals first
    | exact st1_intro (by assumption) (by assumption) (by k_mem) ⟨rfl, .inl ⟨_, by assumption, by assumption, (fun y => (chain_eq (chain_eq (chain_eq rfl l0) l1) l2))⟩⟩
    | exact st1_intro (by assumption) (by assumption) (by k_mem) ⟨rfl, .inr ⟨⟨_, _, News.get (by assumption) (.tail _ (.head _)), News.get (by assumption) (.tail _ (.tail _ (.head _))), by assumption⟩, ⟨_, if_pos rfl⟩, (fun y hy => (if_neg hy).trans ((chain_eq (chain_eq (chain_eq rfl l0) l1) l2)))⟩⟩
end
end Mine
namespace Mine
section
variable {w : World} {s : Shared} {h₀ : Heap} {fa L B DB MS TM x nd nd2 f cc sc P PT TB NM NO LB n1 d1 tp1 n2 d2 tp2 TT : Nat} {m mg mb : Str → Option Value} {loose : List Str} {mean : ExcName → Option Value} {oMS oTM oPT oTB ox oS oB oP oK oD oT oc on1 od1 on2 od2 : Obj} {cN cO cL : Nat} {vT : Option Value} {tk t1 t2 t3 t4 t5 tq : Tok} {mod nm nm2 lab lab2 a b : Str} {kM kT kP kV : List (Str × Value)}
    {dc pm ct : Value} {vs : List Value} {ns : List Int} {k dr deed c : Int} {vsc : Array Value} {vD : Option Value} {E : Value → Shared → Prop} {q1 q2 q3 u1 u2 u3 y1 y2 y3 : Tok} {tN : Value}
    (X : (hd.heap_39 w.params).In h₀) (T : Top topProg loose mean mg mb h₀) (Bl : Below callerA h₀ [] h₀)
include X T Bl
theorem st5_done (F : Fr h₀ L s.heap m)
    (N : News h₀ L s.heap [(L+1+1, oB), (L+1+1+1, oP), (B, instObj 121 DB), (DB, bD w q1 q2 q3 (.int c t5) tN MS), (MS, oMS), (P, oPT), (x, ox)])
    (hB : oB.data = .cell (some (.ref B)))
    (hP : oP.data = .cell (some (.ref P)))
    (hM : oMS.IsDictOf (strKind prg w) kM) (lM : (MS == sysModules) = false) (hkM : kM.length ≤ 1000)
    (hPT : oPT.IsDictOf (strKind prg w) kP) (lP : (P == sysModules) = false) (lk : kP.length ≤ 1000) (hlt : L+1+1+1 < DB ∧ DB < B ∧ B < MS ∧ MS < P) (hc : 0 ≤ c ∧ c < 1000) (sameK : kM.map (·.1) = kP.map (·.1))
    (l0 : m (Str.ofString "told") = some (.str (Str.ofString "done") t1))
    (l1 : m (Str.ofString "due") = some (.str (Str.ofString "done") t2))
    (l2 : m (Str.ofString "changes") = some (.int c t3)) :
    wpAny (model prg w) (callerA.deeper (envLaw fa L)) (exec (tst 5) (envLaw fa L)) (St1 h₀ L x ox (fun f m' h' => f = .next ∧ (∀ y, m' y = m y)) s) E s := by
  (try unfold t7c); (try unfold t7b); (try unfold t6L); (try unfold t6R); (try unfold est); (try unfold ust); (try unfold tst)
  have F := fr_chain F l0
  have F := fr_chain F ((chain_eq rfl l0).trans l1)
  have F := fr_chain F ((chain_eq (chain_eq rfl l0) l1).trans l2)
  unfold envLaw at *
  conv => enter [3, 1]; whnf
  conv => pattern (occs := *) lawScope; all_goals whnf
  w_on
  w_strict k_steps
  all_goals first
    | exact st1_intro (by assumption) (by assumption) (by k_mem) ⟨rfl, (fun y => (chain_eq (chain_eq (chain_eq rfl l0) l1) l2))⟩
    | (exfalso; simp_all; done)

theorem st5_ref (F : Fr h₀ L s.heap m)
    (N : News h₀ L s.heap [(L+1+1, oB), (L+1+1+1, oP), (B, instObj 121 DB), (DB, bD w q1 q2 q3 (.int c t5) tN MS), (MS, oMS), (P, oPT), (x, ox)])
    (hB : oB.data = .cell (some (.ref B)))
    (hP : oP.data = .cell (some (.ref P)))
    (hM : oMS.IsDictOf (strKind prg w) kM) (lM : (MS == sysModules) = false) (hkM : kM.length ≤ 1000)
    (hPT : oPT.IsDictOf (strKind prg w) kP) (lP : (P == sysModules) = false) (lk : kP.length ≤ 1000) (hlt : L+1+1+1 < DB ∧ DB < B ∧ B < MS ∧ MS < P) (hc : 0 ≤ c ∧ c < 1000) (sameK : kM.map (·.1) = kP.map (·.1))
    (l0 : m (Str.ofString "told") = some (.str (Str.ofString "refused") t1))
    (l1 : m (Str.ofString "due") = some (.str (Str.ofString "refused") t2))
    (l2 : m (Str.ofString "changes") = some (.int c t3)) :
    wpAny (model prg w) (callerA.deeper (envLaw fa L)) (exec (tst 5) (envLaw fa L)) (St1 h₀ L x ox (fun f m' h' => f = .next ∧ (∀ y, m' y = m y)) s) E s := by
  (try unfold t7c); (try unfold t7b); (try unfold t6L); (try unfold t6R); (try unfold est); (try unfold ust); (try unfold tst)
  have F := fr_chain F l0
  have F := fr_chain F ((chain_eq rfl l0).trans l1)
  have F := fr_chain F ((chain_eq (chain_eq rfl l0) l1).trans l2)
  unfold envLaw at *
  conv => enter [3, 1]; whnf
  conv => pattern (occs := *) lawScope; all_goals whnf
  w_on
  w_strict k_steps
  all_goals first
    | exact st1_intro (by assumption) (by assumption) (by k_mem) ⟨rfl, (fun y => (chain_eq (chain_eq (chain_eq rfl l0) l1) l2))⟩
    | (exfalso; simp_all; done)
end
end Mine
namespace Mine
section
variable {w : World} {s : Shared} {h₀ : Heap} {fa L B DB MS TM x nd nd2 f cc sc P PT TB NM NO LB n1 d1 tp1 n2 d2 tp2 TT : Nat} {m mg mb : Str → Option Value} {loose : List Str} {mean : ExcName → Option Value} {oMS oTM oPT oTB ox oS oB oP oK oD oT oc on1 od1 on2 od2 : Obj} {cN cO cL : Nat} {vT : Option Value} {tk t1 t2 t3 t4 t5 tq : Tok} {mod nm nm2 lab lab2 a b : Str} {kM kT kP kV : List (Str × Value)}
    {dc pm ct : Value} {vs : List Value} {ns : List Int} {k dr deed c : Int} {vsc : Array Value} {vD : Option Value} {E : Value → Shared → Prop} {q1 q2 q3 u1 u2 u3 y1 y2 y3 : Tok} {tN : Value}
    (X : (hd.heap_39 w.params).In h₀) (T : Top topProg loose mean mg mb h₀) (Bl : Below callerA h₀ [] h₀)
include X T Bl
theorem e5_te (F : Fr h₀ L s.heap m)
    (N : News h₀ L s.heap [(n1, instObj 170 d1), (d1, nD w u1 u2 u3 tp1 a), (x, ox)])
    (zl : (lab == Str.ofString "") = true)
    (l0 : m (Str.ofString "name") = some (.str a t4))
    (l1 : m (Str.ofString "node") = some (.ref n1))
    (l2 : m (Str.ofString "label") = some (.str lab t5))
    (l3 : m (Str.ofString "done") = some (.bool true)) :
    wpAny (model prg w) (callerA.deeper (envLaw fa L)) (exec (nth (forB (est 5)) 1) (envLaw fa L)) (St1 h₀ L x ox (fun f m' h' => f = .next ∧ (∀ y, m' y = m y)) s) E s := by
  (try unfold t7c); (try unfold t7b); (try unfold t6L); (try unfold t6R); (try unfold est); (try unfold ust); (try unfold tst)
  have F := fr_chain F l0
  have F := fr_chain F ((chain_eq rfl l0).trans l1)
  have F := fr_chain F ((chain_eq (chain_eq rfl l0) l1).trans l2)
  have F := fr_chain F ((chain_eq (chain_eq (chain_eq rfl l0) l1) l2).trans l3)
  unfold envLaw at *
  conv => enter [3, 1]; whnf
  conv => pattern (occs := *) lawScope; all_goals whnf
  w_on
  w_strict k_steps
  all_goals first
    | exact st1_intro (by assumption) (by assumption) (by k_mem) ⟨rfl, (fun y => (chain_eq (chain_eq (chain_eq (chain_eq rfl l0) l1) l2) l3))⟩
    | (exfalso; have h : (a != a) = true := by assumption
       simp at h)

theorem e5_tl (F : Fr h₀ L s.heap m)
    (N : News h₀ L s.heap [(n1, instObj 170 d1), (d1, nD w u1 u2 u3 tp1 lab), (x, ox)])
    (zl : (lab == Str.ofString "") = false)
    (l0 : m (Str.ofString "name") = some (.str a t4))
    (l1 : m (Str.ofString "node") = some (.ref n1))
    (l2 : m (Str.ofString "label") = some (.str lab t5))
    (l3 : m (Str.ofString "done") = some (.bool true)) :
    wpAny (model prg w) (callerA.deeper (envLaw fa L)) (exec (nth (forB (est 5)) 1) (envLaw fa L)) (St1 h₀ L x ox (fun f m' h' => f = .next ∧ (∀ y, m' y = m y)) s) E s := by
  (try unfold t7c); (try unfold t7b); (try unfold t6L); (try unfold t6R); (try unfold est); (try unfold ust); (try unfold tst)
  have F := fr_chain F l0
  have F := fr_chain F ((chain_eq rfl l0).trans l1)
  have F := fr_chain F ((chain_eq (chain_eq rfl l0) l1).trans l2)
  have F := fr_chain F ((chain_eq (chain_eq (chain_eq rfl l0) l1) l2).trans l3)
  unfold envLaw at *
  conv => enter [3, 1]; whnf
  conv => pattern (occs := *) lawScope; all_goals whnf
  w_on
  w_strict k_steps
  all_goals first
    | exact st1_intro (by assumption) (by assumption) (by k_mem) ⟨rfl, (fun y => (chain_eq (chain_eq (chain_eq (chain_eq rfl l0) l1) l2) l3))⟩
    | (exfalso; have h : (lab != lab) = true := by assumption
       simp at h)

theorem e5_f (F : Fr h₀ L s.heap m)
    (N : News h₀ L s.heap [(n1, instObj 170 d1), (d1, nD w u1 u2 u3 tp1 lab), (x, ox)])
    (l0 : m (Str.ofString "name") = some (.str a t4))
    (l1 : m (Str.ofString "node") = some (.ref n1))
    (l2 : m (Str.ofString "label") = some (.str lab t5))
    (l3 : m (Str.ofString "done") = some (.bool false)) :
    wpAny (model prg w) (callerA.deeper (envLaw fa L)) (exec (nth (forB (est 5)) 1) (envLaw fa L)) (St1 h₀ L x ox (fun f m' h' => f = .next ∧ (∀ y, m' y = m y)) s) E s := by
  (try unfold t7c); (try unfold t7b); (try unfold t6L); (try unfold t6R); (try unfold est); (try unfold ust); (try unfold tst)
  have F := fr_chain F l0
  have F := fr_chain F ((chain_eq rfl l0).trans l1)
  have F := fr_chain F ((chain_eq (chain_eq rfl l0) l1).trans l2)
  have F := fr_chain F ((chain_eq (chain_eq (chain_eq rfl l0) l1) l2).trans l3)
  unfold envLaw at *
  conv => enter [3, 1]; whnf
  conv => pattern (occs := *) lawScope; all_goals whnf
  w_on
  w_strict k_steps
  all_goals first
    | exact st1_intro (by assumption) (by assumption) (by k_mem) ⟨rfl, (fun y => (chain_eq (chain_eq (chain_eq (chain_eq rfl l0) l1) l2) l3))⟩
    | (exfalso; have h : (lab != lab) = true := by assumption
       simp at h)
end
end Mine
namespace Mine
section
variable {w : World} {s : Shared} {h₀ : Heap} {fa L B DB MS TM x nd nd2 f cc sc P PT TB NM NO LB n1 d1 tp1 n2 d2 tp2 TT : Nat} {m mg mb : Str → Option Value} {loose : List Str} {mean : ExcName → Option Value} {oMS oTM oPT oTB ox oS oB oP oK oD oT oc on1 od1 on2 od2 : Obj} {cN cO cL : Nat} {vT : Option Value} {tk t1 t2 t3 t4 t5 tq : Tok} {mod nm nm2 lab lab2 a b : Str} {kM kT kP kV : List (Str × Value)}
    {dc pm ct : Value} {vs : List Value} {ns : List Int} {k dr deed c : Int} {vsc : Array Value} {vD : Option Value} {E : Value → Shared → Prop} {q1 q2 q3 u1 u2 u3 y1 y2 y3 : Tok} {tN : Value}
    (X : (hd.heap_39 w.params).In h₀) (T : Top topProg loose mean mg mb h₀) (Bl : Below callerA h₀ [] h₀)
include X T Bl
theorem est2_two (F : Fr h₀ L s.heap m)
    (N : News h₀ L s.heap [(NO, W.listOf #[.ref n1, .ref n2] cO), (n1, instObj 170 d1), (d1, nD w u1 u2 u3 tp1 lab), (n2, instObj 170 d2), (d2, nD w y1 y2 y3 tp2 lab2), (x, ox)])
    (l0 : m (Str.ofString "nodes") = some (.ref NO)) :
    wpAny (model prg w) (callerA.deeper (envLaw fa L)) (exec (est 2) (envLaw fa L)) (St1 h₀ L x ox (fun f m' h' => f = .next ∧ (∀ y, y ≠ (Str.ofString "labels") → m' y = m y) ∧ ∃ LB : Nat, m' (Str.ofString "labels") = some (.ref LB) ∧ x ≠ LB ∧ ∃ n t t', News h₀ L h' [(LB, W.listOf #[.str lab t, .str lab2 t'] n)]) s) E s := by
  (try unfold t7c); (try unfold t7b); (try unfold t6L); (try unfold t6R); (try unfold est); (try unfold ust); (try unfold tst)
  have F := fr_chain F l0
  unfold envLaw at *
  conv => enter [3, 1]; whnf
  conv => pattern (occs := *) lawScope; all_goals whnf
  w_on
  w_strict k_steps
  all_goals exact st1_intro (by assumption) (by assumption) (by k_mem) ⟨rfl, (fun y hy => (if_neg hy).trans ((chain_eq rfl l0))), _, if_pos rfl, by omega, _, _, _, news_of (by assumption) (by k_mem)⟩
end
end Mine
namespace Mine
section
variable {w : World} {s : Shared} {h₀ : Heap} {fa L B DB MS TM x nd nd2 f cc sc P PT TB NM NO LB n1 d1 tp1 n2 d2 tp2 TT : Nat} {m mg mb : Str → Option Value} {loose : List Str} {mean : ExcName → Option Value} {oMS oTM oPT oTB ox oS oB oP oK oD oT oc on1 od1 on2 od2 : Obj} {cN cO cL : Nat} {vT : Option Value} {tk t1 t2 t3 t4 t5 tq : Tok} {mod nm nm2 lab lab2 a b : Str} {kM kT kP kV : List (Str × Value)}
    {dc pm ct : Value} {vs : List Value} {ns : List Int} {k dr deed c : Int} {vsc : Array Value} {vD : Option Value} {E : Value → Shared → Prop} {q1 q2 q3 u1 u2 u3 y1 y2 y3 : Tok} {tN : Value}
    (X : (hd.heap_39 w.params).In h₀) (T : Top topProg loose mean mg mb h₀) (Bl : Below callerA h₀ [] h₀)
include X T Bl
theorem est1_one (F : Fr h₀ L s.heap m)
    (N : News h₀ L s.heap [(L+1+1+1+1, oK), (L+1+1+1+1+1, oD), (NM, W.listOf #[.str a t4] cN), (x, ox)])
    (hK : oK.data = .cell (some (.int k t1)))
    (hD : oD.data = .cell (some (.int dr t2)))
    (hk : 0 ≤ k ∧ k < 12) (hlt : L+1+1+1+1+1 < NM)
    (l0 : m (Str.ofString "names") = some (.ref NM)) :
    wpAny (model prg w) (callerA.deeper (envLaw fa L)) (exec (est 1) (envLaw fa L)) (St1 h₀ L x ox (fun f m' h' => f = .next ∧ (∀ y, y ≠ (Str.ofString "nodes") → m' y = m y) ∧ ∃ NO n1 d1 tp1 : Nat, ∃ lab, m' (Str.ofString "nodes") = some (.ref NO) ∧ x ≠ NO ∧ (∃ c, News h₀ L h' [(NO, W.listOf #[.ref n1] c)]) ∧ NIs w h' n1 d1 tp1 lab ∧ (∃ t t' n, h'.get? tp1 = some ({ cls := .type "tuple", data := .seq #[.int 1 t, .int (2 * k + (0 + ((0 : Nat) : Int))) t'] n } : Obj)) ∧ (lab = (Str.ofString "") ∨ lab = (Str.ofString "l" ++ Str.ofString (toString (2 * k + (0 + (((0 : Nat) : Int))))))) ∧ x < tp1 ∧ tp1 < d1 ∧ d1 < n1) s) E s := by
  (try unfold t7c); (try unfold t7b); (try unfold t6L); (try unfold t6R); (try unfold est); (try unfold ust); (try unfold tst)
  have F := fr_chain F l0
  unfold envLaw at *
  conv => enter [3, 1]; whnf
  conv => pattern (occs := *) lawScope; all_goals whnf
  w_on
  w_strict k_steps
  all_goals first
    | exact st1_intro (by assumption) (by assumption) (by k_mem) ⟨rfl, (fun y hy => (if_neg hy).trans ((chain_eq rfl l0))), _, _, _, _, _, if_pos rfl, by omega, ⟨_, news_of (by assumption) (by k_mem)⟩, ⟨News.get (by assumption) (by k_mem), _, _, _, News.get (by assumption) (by k_mem)⟩, ⟨_, _, _, News.get (by assumption) (by k_mem)⟩, .inl rfl, by omega, by omega, by omega⟩
    | exact st1_intro (by assumption) (by assumption) (by k_mem) ⟨rfl, (fun y hy => (if_neg hy).trans ((chain_eq rfl l0))), _, _, _, _, _, if_pos rfl, by omega, ⟨_, news_of (by assumption) (by k_mem)⟩, ⟨News.get (by assumption) (by k_mem), _, _, _, News.get (by assumption) (by k_mem)⟩, ⟨_, _, _, News.get (by assumption) (by k_mem)⟩, .inr rfl, by omega, by omega, by omega⟩
end
end Mine
namespace Mine
section
variable {w : World} {s : Shared} {h₀ : Heap} {fa L B DB MS TM x nd nd2 f cc sc P PT TB NM NO LB n1 d1 tp1 n2 d2 tp2 TT : Nat} {m mg mb : Str → Option Value} {loose : List Str} {mean : ExcName → Option Value} {oMS oTM oPT oTB ox oS oB oP oK oD oT oc on1 od1 on2 od2 : Obj} {cN cO cL : Nat} {vT : Option Value} {tk t1 t2 t3 t4 t5 tq : Tok} {mod nm nm2 lab lab2 a b : Str} {kM kT kP kV : List (Str × Value)}
    {dc pm ct : Value} {vs : List Value} {ns : List Int} {k dr deed c : Int} {vsc : Array Value} {vD : Option Value} {E : Value → Shared → Prop} {q1 q2 q3 u1 u2 u3 y1 y2 y3 : Tok} {tN : Value}
    (X : (hd.heap_39 w.params).In h₀) (T : Top topProg loose mean mg mb h₀) (Bl : Below callerA h₀ [] h₀)
include X T Bl
theorem est1_two (F : Fr h₀ L s.heap m)
    (N : News h₀ L s.heap [(L+1+1+1+1, oK), (L+1+1+1+1+1, oD), (NM, W.listOf #[.str a t4, .str b t3] cN), (x, ox)])
    (hK : oK.data = .cell (some (.int k t1)))
    (hD : oD.data = .cell (some (.int dr t2)))
    (hk : 0 ≤ k ∧ k < 12) (hlt : L+1+1+1+1+1 < NM)
    (l0 : m (Str.ofString "names") = some (.ref NM)) :
    wpAny (model prg w) (callerA.deeper (envLaw fa L)) (exec (est 1) (envLaw fa L)) (St1 h₀ L x ox (fun f m' h' => f = .next ∧ (∀ y, y ≠ (Str.ofString "nodes") → m' y = m y) ∧ ∃ NO n1 d1 tp1 n2 d2 tp2 : Nat, ∃ lab lab2, m' (Str.ofString "nodes") = some (.ref NO) ∧ x ≠ NO ∧ (∃ c, News h₀ L h' [(NO, W.listOf #[.ref n1, .ref n2] c)]) ∧ (NIs w h' n1 d1 tp1 lab ∧ (∃ t t' n, h'.get? tp1 = some ({ cls := .type "tuple", data := .seq #[.int 1 t, .int (2 * k + (0 + ((0 : Nat) : Int))) t'] n } : Obj)) ∧ (lab = (Str.ofString "") ∨ lab = (Str.ofString "l" ++ Str.ofString (toString (2 * k + (0 + (((0 : Nat) : Int))))))) ∧ x < tp1 ∧ tp1 < d1 ∧ d1 < n1) ∧ (NIs w h' n2 d2 tp2 lab2 ∧ (∃ t t' n, h'.get? tp2 = some ({ cls := .type "tuple", data := .seq #[.int 1 t, .int (2 * k + (0 + ((1 : Nat) : Int))) t'] n } : Obj)) ∧ (lab2 = (Str.ofString "") ∨ lab2 = (Str.ofString "l" ++ Str.ofString (toString (2 * k + (0 + (((1 : Nat) : Int))))))) ∧ x < tp2 ∧ tp2 < d2 ∧ d2 < n2) ∧ n1 < tp2 ∧ (lab = (Str.ofString "") ↔ lab2 = (Str.ofString ""))) s) E s := by
  (try unfold t7c); (try unfold t7b); (try unfold t6L); (try unfold t6R); (try unfold est); (try unfold ust); (try unfold tst)
  have F := fr_chain F l0
  unfold envLaw at *
  conv => enter [3, 1]; whnf
  conv => pattern (occs := *) lawScope; all_goals whnf
  w_on
  w_strict k_steps
  all_goals first
    | exact st1_intro (by assumption) (by assumption) (by k_mem) ⟨rfl, (fun y hy => (if_neg hy).trans ((chain_eq rfl l0))), _, _, _, _, _, _, _, _, _, if_pos rfl, by omega, ⟨_, news_of (by assumption) (by k_mem)⟩, ⟨⟨News.get (by assumption) (by k_mem), _, _, _, News.get (by assumption) (by k_mem)⟩, ⟨_, _, _, News.get (by assumption) (by k_mem)⟩, .inl rfl, by omega, by omega, by omega⟩, ⟨⟨News.get (by assumption) (by k_mem), _, _, _, News.get (by assumption) (by k_mem)⟩, ⟨_, _, _, News.get (by assumption) (by k_mem)⟩, .inl rfl, by omega, by omega, by omega⟩, by omega, Iff.rfl⟩
    | exact st1_intro (by assumption) (by assumption) (by k_mem) ⟨rfl, (fun y hy => (if_neg hy).trans ((chain_eq rfl l0))), _, _, _, _, _, _, _, _, _, if_pos rfl, by omega, ⟨_, news_of (by assumption) (by k_mem)⟩, ⟨⟨News.get (by assumption) (by k_mem), _, _, _, News.get (by assumption) (by k_mem)⟩, ⟨_, _, _, News.get (by assumption) (by k_mem)⟩, .inr rfl, by omega, by omega, by omega⟩, ⟨⟨News.get (by assumption) (by k_mem), _, _, _, News.get (by assumption) (by k_mem)⟩, ⟨_, _, _, News.get (by assumption) (by k_mem)⟩, .inr rfl, by omega, by omega, by omega⟩, by omega, ⟨fun e => absurd e (l_ne _), fun e => absurd e (l_ne _)⟩⟩
end
end Mine
namespace Mine
section
variable {w : World} {s : Shared} {h₀ : Heap} {fa L B DB MS TM x nd nd2 f cc sc P PT TB NM NO LB n1 d1 tp1 n2 d2 tp2 TT : Nat} {m mg mb : Str → Option Value} {loose : List Str} {mean : ExcName → Option Value} {oMS oTM oPT oTB ox oS oB oP oK oD oT oc on1 od1 on2 od2 : Obj} {cN cO cL : Nat} {vT : Option Value} {tk t1 t2 t3 t4 t5 tq : Tok} {mod nm nm2 lab lab2 a b : Str} {kM kT kP kV : List (Str × Value)}
    {dc pm ct : Value} {vs : List Value} {ns : List Int} {k dr deed c : Int} {vsc : Array Value} {vD : Option Value} {E : Value → Shared → Prop} {q1 q2 q3 u1 u2 u3 y1 y2 y3 : Tok} {tN : Value}
    (X : (hd.heap_39 w.params).In h₀) (T : Top topProg loose mean mg mb h₀) (Bl : Below callerA h₀ [] h₀)
include X T Bl
theorem pre0 (ch : CodeHd h₀ 185 183) (F : Fr h₀ L s.heap m)
    (N : News h₀ L s.heap [(L+1, oS), (L+1+1+1+1+1+1, oT), (183, tabObj #[]), (x, ox)])
    (hS : oS.data = .cell (some (.ref sc))) (hlt : 183 < L)
    (hxD : x ≠ 183) :
    wpAny (model prg w) (callerA.deeper (envLaw fa L)) (exec (nth lawBody 0) (envLaw fa L)) (St1 h₀ L x ox (fun f m' h' => f = .next ∧ (∀ y, y ≠ (Str.ofString "draw") → m' y = m y) ∧ ∃ f cc : Nat, ∃ dc pm ct oc vsc tq, m' (Str.ofString "draw") = some (.ref f) ∧ h'.get? f = some (drawObj fa L dc pm cc ct) ∧ h'.get? cc = some oc ∧ oc.data = .fields vsc ∧ vsc[1]? = some (.str (qualnameIn (envLaw fa L) (Str.ofString "draw") (Str.ofString "draw")) tq) ∧ L+1+1+1+1+1+1 < cc ∧ cc < f ∧ ∃ ps, h'.get? 183 = some (tabObj ps)) s) E s := by
  (try unfold t7c); (try unfold t7b); (try unfold t6L); (try unfold t6R); (try unfold est); (try unfold ust); (try unfold tst)
  unfold envLaw at *
  conv => enter [3, 1]; whnf
  conv => pattern (occs := *) lawScope; all_goals whnf
  w_on
  w_strict k_steps
  all_goals exact st1_intro (by assumption) (by assumption) (by k_mem) ⟨rfl, (fun y hy => (if_neg hy).trans (rfl)), _, _, _, _, _, _, _, _, if_pos rfl, News.get (by assumption) (by k_mem), News.get (by assumption) (by k_mem), by assumption, by assumption, by omega, by omega, _, News.get (by assumption) (by k_mem)⟩

theorem pre1 (F : Fr h₀ L s.heap m)
    (N : News h₀ L s.heap [(L+1+1, oB), (L+1+1+1, oP), (L+1+1+1+1+1+1, oT), (x, ox)])
    (hB : oB.data = .cell vT) (hP : oP.data = .cell vD)
    (hxD : x ≠ L+1+1 ∧ x ≠ L+1+1+1) :
    wpAny (model prg w) (callerA.deeper (envLaw fa L)) (exec (nth lawBody 1) (envLaw fa L)) (St1 h₀ L x ox (fun f m' h' => f = .next ∧ (∀ y, y ≠ (Str.ofString "changes") → m' y = m y) ∧ (∃ t, m' (Str.ofString "changes") = some (.int 0 t)) ∧ ∃ B DB MS P : Nat, CIs h' (L+1+1) (.ref B) ∧ CIs h' (L+1+1+1) (.ref P) ∧ h'.get? B = some (instObj 121 DB) ∧ BIs w h' DB MS 0 ∧ DIs w h' MS [] ∧ DIs w h' P [] ∧ L+1+1+1+1+1+1 < DB ∧ DB < B ∧ B < MS ∧ MS < P ∧ x < DB) s) E s := by
  (try unfold t7c); (try unfold t7b); (try unfold t6L); (try unfold t6R); (try unfold est); (try unfold ust); (try unfold tst)
  unfold envLaw at *
  conv => enter [3, 1]; whnf
  conv => pattern (occs := *) lawScope; all_goals whnf
  w_on
  w_strict k_steps
  all_goals exact st1_intro (by assumption) (by assumption) (by k_mem) ⟨rfl, (fun y hy => (if_neg hy).trans (rfl)), ⟨_, if_pos rfl⟩, _, _, _, _, ⟨_, News.get (by assumption) (by k_mem), by assumption⟩, ⟨_, News.get (by assumption) (by k_mem), by assumption⟩, News.get (by assumption) (by k_mem), ⟨_, _, _, _, _, News.get (by assumption) (by k_mem)⟩, ⟨_, News.get (by assumption) (by k_mem), by assumption, by assumption⟩, ⟨_, News.get (by assumption) (by k_mem), by assumption, by assumption⟩, by omega, by omega, by omega, by omega, by omega⟩

theorem pre2 (ch : CodeHd h₀ 185 183) (F : Fr h₀ L s.heap m)
    (N : News h₀ L s.heap [(f, drawObj fa L dc pm cc ct), (cc, oc), (L+1, oS), (x, ox)])
    (d1 : oc.data = .fields vsc) (d2 : vsc[1]? = some (.str (qualnameIn (envLaw fa L) (Str.ofString "draw") (Str.ofString "draw")) tq)) (hS : oS.data = .cell (some (.ref sc)))
    (hlt : L+1+1+1+1+1 < cc ∧ cc < f) (hl : h₀.IsList sc vs.toArray) (hi : IntsAre vs ns) (hlen : ¬ ((63 : Int) < (ns.length : Int)))
    (l0 : m (Str.ofString "draw") = some (.ref f)) :
    wpAny (model prg w) (callerA.deeper (envLaw fa L)) (eval (forI (nth lawBody 2)) (envLaw fa L)) (St1 h₀ L x ox (fun v m' h' => (∀ y, m' y = m y) ∧ ∃ R : Nat, ∃ n : Int, v = .ref R ∧ RgIs h' R n ∧ 1 ≤ n ∧ n ≤ 12) s) E s := by
  (try unfold t7c); (try unfold t7b); (try unfold t6L); (try unfold t6R); (try unfold est); (try unfold ust); (try unfold tst)
  have F := fr_chain F l0
  unfold envLaw at *
  conv at N => pattern (drawObj _ _ _ _ _ _); whnf
  conv => enter [3, 1]; whnf
  conv => pattern (occs := *) lawScope; all_goals whnf
  w_on
  w_strict k_steps
  all_goals exact st1_intro (by assumption) (by assumption) (by k_mem) ⟨(fun y => (chain_eq rfl l0)), _, _, rfl, ⟨_, _, _, by assumption⟩, (fm12 _).1, (fm12 _).2⟩

theorem st3 (F : Fr h₀ L s.heap m)
    (N : News h₀ L s.heap [(x, ox)])
    (l0 : m (Str.ofString "deed") = some (.int deed t1)) :
    wpAny (model prg w) (callerA.deeper (envLaw fa L)) (isTrue (ifT (tst 3)) (envLaw fa L) (eval (ifT (tst 3)) (envLaw fa L))) (St1 h₀ L x ox (fun b m' h' => (∀ y, m' y = m y)) s) E s := by
  (try unfold t7c); (try unfold t7b); (try unfold t6L); (try unfold t6R); (try unfold est); (try unfold ust); (try unfold tst)
  have F := fr_chain F l0
  unfold envLaw at *
  conv => pattern (occs := *) (ifT _); all_goals whnf
  conv => pattern (occs := *) lawScope; all_goals whnf
  w_on
  w_strict k_steps
  all_goals exact st1_intro (by assumption) (by assumption) (by k_mem) (fun y => (chain_eq rfl l0))
end
end Mine
namespace Mine
section
variable {w : World} {s : Shared} {h₀ : Heap} {fa L B DB MS TM x nd nd2 f cc sc P PT TB NM NO LB n1 d1 tp1 n2 d2 tp2 TT : Nat} {m mg mb : Str → Option Value} {loose : List Str} {mean : ExcName → Option Value} {oMS oTM oPT oTB ox oS oB oP oK oD oT oc on1 od1 on2 od2 : Obj} {cN cO cL : Nat} {vT : Option Value} {tk t1 t2 t3 t4 t5 tq : Tok} {mod nm nm2 lab lab2 a b : Str} {kM kT kP kV : List (Str × Value)}
    {dc pm ct : Value} {vs : List Value} {ns : List Int} {k dr deed c : Int} {vsc : Array Value} {vD : Option Value} {E : Value → Shared → Prop} {q1 q2 q3 u1 u2 u3 y1 y2 y3 : Tok} {tN : Value}
    (X : (hd.heap_39 w.params).In h₀) (T : Top topProg loose mean mg mb h₀) (Bl : Below callerA h₀ [] h₀)
include X T Bl
theorem s7_none (F : Fr h₀ L s.heap m)
    (N : News h₀ L s.heap [(L+1+1+1, oP), (L+1+1+1+1+1+1, oT), (P, oPT), (x, ox)])
    (hP : oP.data = .cell (some (.ref P))) (hT : oT.data = .cell vT)
    (hPT : oPT.IsDictOf (strKind prg w) kP) (lP : (P == sysModules) = false) (lk : kP.length ≤ 1000) (v1 : valueAt kP mod = none)
    (hlt : L+1+1+1+1+1+1 < P)
    (hxD : x ≠ L+1+1+1+1+1+1)
    (l0 : m (Str.ofString "module") = some (.str mod t1)) :
    wpAny (model prg w) (callerA.deeper (envLaw fa L)) (exec (t7b 0) (envLaw fa L)) (St1 h₀ L x ox (fun f m' h' => f = .next ∧ (∀ y, m' y = m y) ∧ ∃ TB : Nat, CIs h' (L+1+1+1+1+1+1) (.ref TB) ∧ x < TB) s) E s := by
  (try unfold t7c); (try unfold t7b); (try unfold t6L); (try unfold t6R); (try unfold est); (try unfold ust); (try unfold tst)
  have F := fr_chain F l0
  unfold envLaw at *
  conv => enter [3, 1]; whnf
  conv => pattern (occs := *) lawScope; all_goals whnf
  w_on
  w_strict k_steps
  all_goals exact st1_intro (by assumption) (by assumption) (by k_mem) ⟨rfl, (fun y => (chain_eq rfl l0)), _, ⟨_, News.get (by assumption) (by k_mem), by assumption⟩, by omega⟩

theorem s7_some (F : Fr h₀ L s.heap m)
    (N : News h₀ L s.heap [(L+1+1+1, oP), (L+1+1+1+1+1+1, oT), (P, oPT), (x, ox)])
    (hP : oP.data = .cell (some (.ref P))) (hT : oT.data = .cell vT)
    (hPT : oPT.IsDictOf (strKind prg w) kP) (lP : (P == sysModules) = false) (lk : kP.length ≤ 1000) (v1 : valueAt kP mod = some (.ref PT))
    (hlt : L+1+1+1+1+1+1 < P)
    (hxD : x ≠ L+1+1+1+1+1+1)
    (l0 : m (Str.ofString "module") = some (.str mod t1)) :
    wpAny (model prg w) (callerA.deeper (envLaw fa L)) (exec (t7b 0) (envLaw fa L)) (St1 h₀ L x ox (fun f m' h' => f = .next ∧ (∀ y, m' y = m y) ∧ CIs h' (L+1+1+1+1+1+1) (.ref PT)) s) E s := by
  (try unfold t7c); (try unfold t7b); (try unfold t6L); (try unfold t6R); (try unfold est); (try unfold ust); (try unfold tst)
  have F := fr_chain F l0
  unfold envLaw at *
  conv => enter [3, 1]; whnf
  conv => pattern (occs := *) lawScope; all_goals whnf
  w_on
  w_strict k_steps
  all_goals exact st1_intro (by assumption) (by assumption) (by k_mem) ⟨rfl, (fun y => (chain_eq rfl l0)), ⟨_, News.get (by assumption) (by k_mem), by assumption⟩⟩
end
end Mine
local macro_rules | `(tactic| walk_at "call ref") => `(tactic| (k_here; (with_reducible rename Mine.HookI _ _ _ _ _ _ _ => hkX'); k_dflt (refine' Mine.hookI_use ?H ?F ?N ?sub ?k; (case H => assumption); (case F => k_asm); (case N => k_asm); (case sub => walk_at "MYSUB"); (case' k => (intro a' n' h' tk' F' N' l'; (try k_lt l'))))))
local macro_rules | `(tactic| walk_at "call ref") => `(tactic| (k_here; (with_reducible rename Mine.HookR _ _ _ _ _ _ _ _ => hkX'); k_dflt (refine' Mine.hookR_use ?H ?F ?N ?sub ?k; (case H => assumption); (case F => k_asm); (case N => k_asm); (case sub => walk_at "MYSUB"); (case' k => (intro a' t' B' h' tk' fly' nb'; (try dsimp only))))))
local macro_rules | `(tactic| walk_at "handleBy ref") => `(tactic| (k_here; (with_reducible rename Mine.NewsB _ _ _ _ => nbX'); (with_reducible rename Mine.Fly _ _ _ _ _ _ _ _ _ => flX'); k_dflt (first
  | (refine' Mine.fly_hit ?R ?X ?T ?en ?he ?_; (case R => assumption); (case X => k_asm); (case T => k_asm); (case en => k_is); (case he => kts_exm); intro h' E' R' F'; have N' := Mine.news_flyB R' (by assumption))
  | (refine' Mine.fly_pass ?R ?X ?T ?en ?he ?_; (case R => assumption); (case X => k_asm); (case T => k_asm); (case en => k_is); (case he => kts_exm); intro h' R'))))
local macro_rules | `(tactic| walk_at "exec Assign cons ListComp") => `(tactic| (k_here; (with_reducible rename Mine.HookI _ _ _ _ _ _ _ => hkX'); k_dflt (refine Mine.Assign_ListComp_T (F₀ := by k_asm) (by rfl) (by with_unfolding_all rfl) (by rfl) (by decide) (by rfl) (by decide) (by rfl) (by rfl) (by rfl) ?_)))
local macro_rules | `(tactic| walk_at "TupSrc") => `(tactic| (k_here; k_dflt (refine Mine.TupSrc.intro (by rfl) (by k_asm) (by k_asm) (by k_mem) (by first | size_fits | exact Nat.le_of_ble_eq_true rfl) ?_; intro g'; lcg_lit)))
namespace Mine
section
variable {w : World} {s : Shared} {h₀ : Heap} {fa L B DB MS TM x nd nd2 f cc sc P PT TB NM NO LB n1 d1 tp1 n2 d2 tp2 TT : Nat} {m mg mb : Str → Option Value} {loose : List Str} {mean : ExcName → Option Value} {oMS oTM oPT oTB ox oS oB oP oK oD oT oc on1 od1 on2 od2 : Obj} {cN cO cL : Nat} {vT : Option Value} {tk t1 t2 t3 t4 t5 tq : Tok} {mod nm nm2 lab lab2 a b : Str} {kM kT kP kV : List (Str × Value)}
    {dc pm ct : Value} {vs : List Value} {ns : List Int} {k dr deed c : Int} {vsc : Array Value} {vD : Option Value} {E : Value → Shared → Prop} {q1 q2 q3 u1 u2 u3 y1 y2 y3 : Tok} {tN : Value}
    (X : (hd.heap_39 w.params).In h₀) (T : Top topProg loose mean mg mb h₀) (Bl : Below callerA h₀ [] h₀)
include X T Bl
theorem c7_no1 (F : Fr h₀ L s.heap m)
    (N : News h₀ L s.heap [(L+1+1, oB), (NM, W.listOf #[.str nm t4] cN), (B, instObj 121 DB), (DB, bD w q1 q2 q3 (.int c t5) tN MS), (MS, oMS), (x, ox)])
    (hB : oB.data = .cell (some (.ref B)))
    (HC : HookR w (callerA.deeper (envLaw fa L)) h₀ fa L 74 [.ref B, .str mod t1, .str nm t4] [(L+1+1, oB), (NM, W.listOf #[.str nm t4] cN), (B, instObj 121 DB), (DB, bD w q1 q2 q3 (.int c t5) tN MS), (MS, oMS), (x, ox)])
    (l0 : m (Str.ofString "names") = some (.ref NM))
    (l1 : m (Str.ofString "module") = some (.str mod t1)) :
    wpAny (model prg w) (callerA.deeper (envLaw fa L)) (exec (t7c 0) (envLaw fa L)) (St1 h₀ L x ox (fun f m' h' => f = .next ∧ (∀ y, y ≠ (Str.ofString "answer") → m' y = m y) ∧ ∃ t, m' (Str.ofString "answer") = some (.str (Str.ofString "no module") t)) s) E s := by
  (try unfold t7c); (try unfold t7b); (try unfold t6L); (try unfold t6R); (try unfold est); (try unfold ust); (try unfold tst)
  have F := fr_chain F l0
  have F := fr_chain F ((chain_eq rfl l0).trans l1)
  unfold envLaw at *
  conv => enter [3, 1]; whnf
  conv => pattern (occs := *) lawScope; all_goals whnf
  w_on
  w_strict k_steps
  all_goals exact st1_intro (by assumption) (by assumption) (by k_mem) ⟨rfl, (fun y hy => (if_neg hy).trans ((chain_eq (chain_eq rfl l0) l1))), ⟨_, if_pos rfl⟩⟩

theorem c7_ref1 (F : Fr h₀ L s.heap m)
    (N : News h₀ L s.heap [(L+1+1, oB), (NM, W.listOf #[.str nm t4] cN), (B, instObj 121 DB), (DB, bD w q1 q2 q3 (.int c t5) tN MS), (MS, oMS), (TM, oTM), (x, ox)])
    (hB : oB.data = .cell (some (.ref B)))
    (HC : HookR w (callerA.deeper (envLaw fa L)) h₀ fa L 50 [.ref B, .str mod t1, .str nm t4] [(L+1+1, oB), (NM, W.listOf #[.str nm t4] cN), (B, instObj 121 DB), (DB, bD w q1 q2 q3 (.int c t5) tN MS), (MS, oMS), (TM, oTM), (x, ox)])
    (l0 : m (Str.ofString "names") = some (.ref NM))
    (l1 : m (Str.ofString "module") = some (.str mod t1)) :
    wpAny (model prg w) (callerA.deeper (envLaw fa L)) (exec (t7c 0) (envLaw fa L)) (St1 h₀ L x ox (fun f m' h' => f = .next ∧ (∀ y, y ≠ (Str.ofString "answer") → m' y = m y) ∧ ∃ t, m' (Str.ofString "answer") = some (.str (Str.ofString "refused") t)) s) E s := by
  (try unfold t7c); (try unfold t7b); (try unfold t6L); (try unfold t6R); (try unfold est); (try unfold ust); (try unfold tst)
  have F := fr_chain F l0
  have F := fr_chain F ((chain_eq rfl l0).trans l1)
  unfold envLaw at *
  conv => enter [3, 1]; whnf
  conv => pattern (occs := *) lawScope; all_goals whnf
  w_on
  w_strict k_steps
  all_goals exact st1_intro (by assumption) (by assumption) (by k_mem) ⟨rfl, (fun y hy => (if_neg hy).trans ((chain_eq (chain_eq rfl l0) l1))), ⟨_, if_pos rfl⟩⟩

theorem c7_ok1 (F : Fr h₀ L s.heap m)
    (N : News h₀ L s.heap [(L+1+1, oB), (NM, W.listOf #[.str nm t4] cN), (B, instObj 121 DB), (DB, bD w q1 q2 q3 (.int c t5) tN MS), (MS, oMS), (TM, oTM), (nd, instObj 170 d1), (d1, nD w u1 u2 u3 tp1 lab), (x, ox)])
    (hB : oB.data = .cell (some (.ref B)))
    (HC : HookI w (callerA.deeper (envLaw fa L)) h₀ L [.ref B, .str mod t1, .str nm t4] [(L+1+1, oB), (NM, W.listOf #[.str nm t4] cN), (B, instObj 121 DB), (DB, bD w q1 q2 q3 (.int c t5) tN MS), (MS, oMS), (TM, oTM), (nd, instObj 170 d1), (d1, nD w u1 u2 u3 tp1 lab), (x, ox)] #[.ref nd])
    (l0 : m (Str.ofString "names") = some (.ref NM))
    (l1 : m (Str.ofString "module") = some (.str mod t1)) :
    wpAny (model prg w) (callerA.deeper (envLaw fa L)) (exec (t7c 0) (envLaw fa L)) (St1 h₀ L x ox (fun f m' h' => f = .next ∧ (∀ y, y ≠ (Str.ofString "answer") ∧ y ≠ (Str.ofString "found") → m' y = m y) ∧ ∃ AN n : Nat, m' (Str.ofString "answer") = some (.ref AN) ∧ News h₀ L h' [(AN, W.listOf #[.ref tp1] n)]) s) E s := by
  (try unfold t7c); (try unfold t7b); (try unfold t6L); (try unfold t6R); (try unfold est); (try unfold ust); (try unfold tst)
  have F := fr_chain F l0
  have F := fr_chain F ((chain_eq rfl l0).trans l1)
  unfold envLaw at *
  conv => enter [3, 1]; whnf
  conv => pattern (occs := *) lawScope; all_goals whnf
  w_on
  w_strict k_steps
  all_goals exact st1_intro (by assumption) (by assumption) (by k_mem) ⟨rfl, (fun y hy => (if_neg hy.1).trans ((if_neg hy.2).trans ((chain_eq (chain_eq rfl l0) l1)))), ⟨_, _, if_pos rfl, news_of (by assumption) (by k_mem)⟩⟩

theorem c7_no2 (F : Fr h₀ L s.heap m)
    (N : News h₀ L s.heap [(L+1+1, oB), (NM, W.listOf #[.str nm t4, .str nm2 t3] cN), (B, instObj 121 DB), (DB, bD w q1 q2 q3 (.int c t5) tN MS), (MS, oMS), (x, ox)])
    (hB : oB.data = .cell (some (.ref B)))
    (HC : HookR w (callerA.deeper (envLaw fa L)) h₀ fa L 74 [.ref B, .str mod t1, .str nm t4, .str nm2 t3] [(L+1+1, oB), (NM, W.listOf #[.str nm t4, .str nm2 t3] cN), (B, instObj 121 DB), (DB, bD w q1 q2 q3 (.int c t5) tN MS), (MS, oMS), (x, ox)])
    (l0 : m (Str.ofString "names") = some (.ref NM))
    (l1 : m (Str.ofString "module") = some (.str mod t1)) :
    wpAny (model prg w) (callerA.deeper (envLaw fa L)) (exec (t7c 0) (envLaw fa L)) (St1 h₀ L x ox (fun f m' h' => f = .next ∧ (∀ y, y ≠ (Str.ofString "answer") → m' y = m y) ∧ ∃ t, m' (Str.ofString "answer") = some (.str (Str.ofString "no module") t)) s) E s := by
  (try unfold t7c); (try unfold t7b); (try unfold t6L); (try unfold t6R); (try unfold est); (try unfold ust); (try unfold tst)
  have F := fr_chain F l0
  have F := fr_chain F ((chain_eq rfl l0).trans l1)
  unfold envLaw at *
  conv => enter [3, 1]; whnf
  conv => pattern (occs := *) lawScope; all_goals whnf
  w_on
  w_strict k_steps
  all_goals exact st1_intro (by assumption) (by assumption) (by k_mem) ⟨rfl, (fun y hy => (if_neg hy).trans ((chain_eq (chain_eq rfl l0) l1))), ⟨_, if_pos rfl⟩⟩

theorem c7_ref2 (F : Fr h₀ L s.heap m)
    (N : News h₀ L s.heap [(L+1+1, oB), (NM, W.listOf #[.str nm t4, .str nm2 t3] cN), (B, instObj 121 DB), (DB, bD w q1 q2 q3 (.int c t5) tN MS), (MS, oMS), (TM, oTM), (x, ox)])
    (hB : oB.data = .cell (some (.ref B)))
    (HC : HookR w (callerA.deeper (envLaw fa L)) h₀ fa L 50 [.ref B, .str mod t1, .str nm t4, .str nm2 t3] [(L+1+1, oB), (NM, W.listOf #[.str nm t4, .str nm2 t3] cN), (B, instObj 121 DB), (DB, bD w q1 q2 q3 (.int c t5) tN MS), (MS, oMS), (TM, oTM), (x, ox)])
    (l0 : m (Str.ofString "names") = some (.ref NM))
    (l1 : m (Str.ofString "module") = some (.str mod t1)) :
    wpAny (model prg w) (callerA.deeper (envLaw fa L)) (exec (t7c 0) (envLaw fa L)) (St1 h₀ L x ox (fun f m' h' => f = .next ∧ (∀ y, y ≠ (Str.ofString "answer") → m' y = m y) ∧ ∃ t, m' (Str.ofString "answer") = some (.str (Str.ofString "refused") t)) s) E s := by
  (try unfold t7c); (try unfold t7b); (try unfold t6L); (try unfold t6R); (try unfold est); (try unfold ust); (try unfold tst)
  have F := fr_chain F l0
  have F := fr_chain F ((chain_eq rfl l0).trans l1)
  unfold envLaw at *
  conv => enter [3, 1]; whnf
  conv => pattern (occs := *) lawScope; all_goals whnf
  w_on
  w_strict k_steps
  all_goals exact st1_intro (by assumption) (by assumption) (by k_mem) ⟨rfl, (fun y hy => (if_neg hy).trans ((chain_eq (chain_eq rfl l0) l1))), ⟨_, if_pos rfl⟩⟩

theorem c7_ok2 (F : Fr h₀ L s.heap m)
    (N : News h₀ L s.heap [(L+1+1, oB), (NM, W.listOf #[.str nm t4, .str nm2 t3] cN), (B, instObj 121 DB), (DB, bD w q1 q2 q3 (.int c t5) tN MS), (MS, oMS), (TM, oTM), (nd, instObj 170 d1), (d1, nD w u1 u2 u3 tp1 lab), (nd2, instObj 170 d2), (d2, nD w y1 y2 y3 tp2 lab2), (x, ox)])
    (hB : oB.data = .cell (some (.ref B)))
    (HC : HookI w (callerA.deeper (envLaw fa L)) h₀ L [.ref B, .str mod t1, .str nm t4, .str nm2 t3] [(L+1+1, oB), (NM, W.listOf #[.str nm t4, .str nm2 t3] cN), (B, instObj 121 DB), (DB, bD w q1 q2 q3 (.int c t5) tN MS), (MS, oMS), (TM, oTM), (nd, instObj 170 d1), (d1, nD w u1 u2 u3 tp1 lab), (nd2, instObj 170 d2), (d2, nD w y1 y2 y3 tp2 lab2), (x, ox)] #[.ref nd, .ref nd2])
    (l0 : m (Str.ofString "names") = some (.ref NM))
    (l1 : m (Str.ofString "module") = some (.str mod t1)) :
    wpAny (model prg w) (callerA.deeper (envLaw fa L)) (exec (t7c 0) (envLaw fa L)) (St1 h₀ L x ox (fun f m' h' => f = .next ∧ (∀ y, y ≠ (Str.ofString "answer") ∧ y ≠ (Str.ofString "found") → m' y = m y) ∧ ∃ AN n : Nat, m' (Str.ofString "answer") = some (.ref AN) ∧ News h₀ L h' [(AN, W.listOf #[.ref tp1, .ref tp2] n)]) s) E s := by
  (try unfold t7c); (try unfold t7b); (try unfold t6L); (try unfold t6R); (try unfold est); (try unfold ust); (try unfold tst)
  have F := fr_chain F l0
  have F := fr_chain F ((chain_eq rfl l0).trans l1)
  unfold envLaw at *
  conv => enter [3, 1]; whnf
  conv => pattern (occs := *) lawScope; all_goals whnf
  w_on
  w_strict k_steps
  all_goals exact st1_intro (by assumption) (by assumption) (by k_mem) ⟨rfl, (fun y hy => (if_neg hy.1).trans ((if_neg hy.2).trans ((chain_eq (chain_eq rfl l0) l1)))), ⟨_, _, if_pos rfl, news_of (by assumption) (by k_mem)⟩⟩
end
end Mine
local macro_rules | `(tactic| walk_at "compareOp NotEq ref ref") => `(tactic| (k_here; k_dflt (first
  | (refine' Mine.ne_lens ?N ?a ?b ?z ?r ?_; (case N => k_asm); (case a => k_mem); (case b => k_mem); (case z => exact rfl); (case r => walk_at "MYROOM"))
  | (refine' Mine.ne_ident ?N ?a ?b ?z ?r ?_; (case N => k_asm); (case a => k_mem); (case b => k_mem); (case z => exact rfl); (case r => walk_at "MYROOM")))))
local macro_rules | `(tactic| walk_at "CompRestT") => `(tactic| (with_unfolding_all (refine LCt.CompRestT.succ ?_; intro v' I' oI' C' oC' D' m' h' tk' E' hv' hC' hx' F' N' off' ne'; (first | lcg_open hv' | (obtain ⟨t9', hv9'⟩ := hv'; subst hv9')); (try simp only [LCg.Off3, and_true] at off'); (iterate 14 (try (obtain ⟨⟨_, _, _⟩, off'⟩ := off'))); (try (obtain ⟨_, _, _⟩ := off')); (try (obtain ⟨_, _, _⟩ := ne')))))
namespace Mine
section
variable {w : World} {s : Shared} {h₀ : Heap} {fa L B DB MS TM x nd nd2 f cc sc P PT TB NM NO LB n1 d1 tp1 n2 d2 tp2 TT : Nat} {m mg mb : Str → Option Value} {loose : List Str} {mean : ExcName → Option Value} {oMS oTM oPT oTB ox oS oB oP oK oD oT oc on1 od1 on2 od2 : Obj} {cN cO cL : Nat} {vT : Option Value} {tk t1 t2 t3 t4 t5 tq : Tok} {mod nm nm2 lab lab2 a b : Str} {kM kT kP kV : List (Str × Value)}
    {dc pm ct : Value} {vs : List Value} {ns : List Int} {k dr deed c : Int} {vsc : Array Value} {vD : Option Value} {E : Value → Shared → Prop} {q1 q2 q3 u1 u2 u3 y1 y2 y3 : Tok} {tN : Value}
    (X : (hd.heap_39 w.params).In h₀) (T : Top topProg loose mean mg mb h₀) (Bl : Below callerA h₀ [] h₀)
include X T Bl
theorem d7_no (F : Fr h₀ L s.heap m)
    (N : News h₀ L s.heap [(L+1+1+1, oP), (L+1+1+1+1+1+1, oT), (NM, W.listOf #[.str nm t4] cN), (P, oPT), (x, ox)])
    (hP : oP.data = .cell (some (.ref P))) (hT : oT.data = .cell (some (.ref PT)))
    (hPT : oPT.IsDictOf (strKind prg w) kP) (lP : (P == sysModules) = false) (lk : kP.length ≤ 1000) 
    (v1 : valueAt kP mod = none)
    (l0 : m (Str.ofString "names") = some (.ref NM))
    (l1 : m (Str.ofString "module") = some (.str mod t1))
    (l2 : m (Str.ofString "answer") = some (.str (Str.ofString "no module") t2)) :
    wpAny (model prg w) (callerA.deeper (envLaw fa L)) (exec (t7c 1) (envLaw fa L)) (St1 h₀ L x ox (fun f m' h' => f = .next ∧ (∀ y, m' y = m y)) s) E s := by
  (try unfold t7c); (try unfold t7b); (try unfold t6L); (try unfold t6R); (try unfold est); (try unfold ust); (try unfold tst)
  have F := fr_chain F l0
  have F := fr_chain F ((chain_eq rfl l0).trans l1)
  have F := fr_chain F ((chain_eq (chain_eq rfl l0) l1).trans l2)
  unfold envLaw at *
  conv => enter [3, 1]; whnf
  conv => pattern (occs := *) lawScope; all_goals whnf
  w_on
  w_strict k_steps
  all_goals first
    | exact st1_intro (by assumption) (by assumption) (by k_mem) ⟨rfl, (fun y => (chain_eq (chain_eq (chain_eq rfl l0) l1) l2))⟩
    | (exfalso; simp_all; done)

theorem d7_n (F : Fr h₀ L s.heap m)
    (N : News h₀ L s.heap [(L+1+1+1, oP), (L+1+1+1+1+1+1, oT), (NM, W.listOf #[.str nm t4] cN), (P, oPT), (PT, oTB), (x, ox)])
    (hP : oP.data = .cell (some (.ref P))) (hT : oT.data = .cell (some (.ref PT)))
    (hPT : oPT.IsDictOf (strKind prg w) kP) (lP : (P == sysModules) = false) (lk : kP.length ≤ 1000) 
    (v1 : valueAt kP mod = some (.ref PT)) (hTB : oTB.IsDictOf (strKind prg w) kT) (lT : (PT == sysModules) = false)
    (v2 : valueAt kT nm = none)
    (l0 : m (Str.ofString "names") = some (.ref NM))
    (l1 : m (Str.ofString "module") = some (.str mod t1))
    (l2 : m (Str.ofString "answer") = some (.str (Str.ofString "refused") t2)) :
    wpAny (model prg w) (callerA.deeper (envLaw fa L)) (exec (t7c 1) (envLaw fa L)) (St1 h₀ L x ox (fun f m' h' => f = .next ∧ (∀ y, m' y = m y)) s) E s := by
  (try unfold t7c); (try unfold t7b); (try unfold t6L); (try unfold t6R); (try unfold est); (try unfold ust); (try unfold tst)
  have F := fr_chain F l0
  have F := fr_chain F ((chain_eq rfl l0).trans l1)
  have F := fr_chain F ((chain_eq (chain_eq rfl l0) l1).trans l2)
  unfold envLaw at *
  conv => enter [3, 1]; whnf
  conv => pattern (occs := *) lawScope; all_goals whnf
  w_on
  w_strict k_steps
  all_goals first
    | exact st1_intro (by assumption) (by assumption) (by k_mem) ⟨rfl, (fun y => (chain_eq (chain_eq (chain_eq rfl l0) l1) l2))⟩
    | (exfalso; simp_all; done)

theorem d7_s {AN : Nat} (F : Fr h₀ L s.heap m)
    (N : News h₀ L s.heap [(L+1+1+1, oP), (L+1+1+1+1+1+1, oT), (NM, W.listOf #[.str nm t4] cN), (P, oPT), (PT, oTB), (AN, W.listOf #[.ref tp1] cL), (x, ox)])
    (hP : oP.data = .cell (some (.ref P))) (hT : oT.data = .cell (some (.ref PT)))
    (hPT : oPT.IsDictOf (strKind prg w) kP) (lP : (P == sysModules) = false) (lk : kP.length ≤ 1000) 
    (v1 : valueAt kP mod = some (.ref PT)) (hTB : oTB.IsDictOf (strKind prg w) kT) (lT : (PT == sysModules) = false)
    (v2 : valueAt kT nm = some (.ref tp1))
    (l0 : m (Str.ofString "names") = some (.ref NM))
    (l1 : m (Str.ofString "module") = some (.str mod t1))
    (l2 : m (Str.ofString "answer") = some (.ref AN)) :
    wpAny (model prg w) (callerA.deeper (envLaw fa L)) (exec (t7c 1) (envLaw fa L)) (St1 h₀ L x ox (fun f m' h' => f = .next ∧ (∀ y, m' y = m y)) s) E s := by
  (try unfold t7c); (try unfold t7b); (try unfold t6L); (try unfold t6R); (try unfold est); (try unfold ust); (try unfold tst)
  have F := fr_chain F l0
  have F := fr_chain F ((chain_eq rfl l0).trans l1)
  have F := fr_chain F ((chain_eq (chain_eq rfl l0) l1).trans l2)
  unfold envLaw at *
  conv => enter [3, 1]; whnf
  conv => pattern (occs := *) lawScope; all_goals whnf
  w_on
  w_strict k_steps
  all_goals first
    | exact st1_intro (by assumption) (by assumption) (by k_mem) ⟨rfl, (fun y => (chain_eq (chain_eq (chain_eq rfl l0) l1) l2))⟩
    | (exfalso; simp_all; done)

theorem d7_no2 (F : Fr h₀ L s.heap m)
    (N : News h₀ L s.heap [(L+1+1+1, oP), (L+1+1+1+1+1+1, oT), (NM, W.listOf #[.str nm t4, .str nm2 t3] cN), (P, oPT), (x, ox)])
    (hP : oP.data = .cell (some (.ref P))) (hT : oT.data = .cell (some (.ref PT)))
    (hPT : oPT.IsDictOf (strKind prg w) kP) (lP : (P == sysModules) = false) (lk : kP.length ≤ 1000) 
    (v1 : valueAt kP mod = none)
    (l0 : m (Str.ofString "names") = some (.ref NM))
    (l1 : m (Str.ofString "module") = some (.str mod t1))
    (l2 : m (Str.ofString "answer") = some (.str (Str.ofString "no module") t2)) :
    wpAny (model prg w) (callerA.deeper (envLaw fa L)) (exec (t7c 1) (envLaw fa L)) (St1 h₀ L x ox (fun f m' h' => f = .next ∧ (∀ y, m' y = m y)) s) E s := by
  (try unfold t7c); (try unfold t7b); (try unfold t6L); (try unfold t6R); (try unfold est); (try unfold ust); (try unfold tst)
  have F := fr_chain F l0
  have F := fr_chain F ((chain_eq rfl l0).trans l1)
  have F := fr_chain F ((chain_eq (chain_eq rfl l0) l1).trans l2)
  unfold envLaw at *
  conv => enter [3, 1]; whnf
  conv => pattern (occs := *) lawScope; all_goals whnf
  w_on
  w_strict k_steps
  all_goals first
    | exact st1_intro (by assumption) (by assumption) (by k_mem) ⟨rfl, (fun y => (chain_eq (chain_eq (chain_eq rfl l0) l1) l2))⟩
    | (exfalso; simp_all; done)

theorem d7_nn (F : Fr h₀ L s.heap m)
    (N : News h₀ L s.heap [(L+1+1+1, oP), (L+1+1+1+1+1+1, oT), (NM, W.listOf #[.str nm t4, .str nm2 t3] cN), (P, oPT), (PT, oTB), (x, ox)])
    (hP : oP.data = .cell (some (.ref P))) (hT : oT.data = .cell (some (.ref PT)))
    (hPT : oPT.IsDictOf (strKind prg w) kP) (lP : (P == sysModules) = false) (lk : kP.length ≤ 1000) 
    (v1 : valueAt kP mod = some (.ref PT)) (hTB : oTB.IsDictOf (strKind prg w) kT) (lT : (PT == sysModules) = false)
    (v2 : valueAt kT nm = none)
    (v3 : valueAt kT nm2 = none)
    (l0 : m (Str.ofString "names") = some (.ref NM))
    (l1 : m (Str.ofString "module") = some (.str mod t1))
    (l2 : m (Str.ofString "answer") = some (.str (Str.ofString "refused") t2)) :
    wpAny (model prg w) (callerA.deeper (envLaw fa L)) (exec (t7c 1) (envLaw fa L)) (St1 h₀ L x ox (fun f m' h' => f = .next ∧ (∀ y, m' y = m y)) s) E s := by
  (try unfold t7c); (try unfold t7b); (try unfold t6L); (try unfold t6R); (try unfold est); (try unfold ust); (try unfold tst)
  have F := fr_chain F l0
  have F := fr_chain F ((chain_eq rfl l0).trans l1)
  have F := fr_chain F ((chain_eq (chain_eq rfl l0) l1).trans l2)
  unfold envLaw at *
  conv => enter [3, 1]; whnf
  conv => pattern (occs := *) lawScope; all_goals whnf
  w_on
  w_strict k_steps
  all_goals first
    | exact st1_intro (by assumption) (by assumption) (by k_mem) ⟨rfl, (fun y => (chain_eq (chain_eq (chain_eq rfl l0) l1) l2))⟩
    | (exfalso; simp_all; done)

theorem d7_ns (F : Fr h₀ L s.heap m)
    (N : News h₀ L s.heap [(L+1+1+1, oP), (L+1+1+1+1+1+1, oT), (NM, W.listOf #[.str nm t4, .str nm2 t3] cN), (P, oPT), (PT, oTB), (x, ox)])
    (hP : oP.data = .cell (some (.ref P))) (hT : oT.data = .cell (some (.ref PT)))
    (hPT : oPT.IsDictOf (strKind prg w) kP) (lP : (P == sysModules) = false) (lk : kP.length ≤ 1000) 
    (v1 : valueAt kP mod = some (.ref PT)) (hTB : oTB.IsDictOf (strKind prg w) kT) (lT : (PT == sysModules) = false)
    (v2 : valueAt kT nm = none)
    (v3 : valueAt kT nm2 = some (.ref tp2))
    (l0 : m (Str.ofString "names") = some (.ref NM))
    (l1 : m (Str.ofString "module") = some (.str mod t1))
    (l2 : m (Str.ofString "answer") = some (.str (Str.ofString "refused") t2)) :
    wpAny (model prg w) (callerA.deeper (envLaw fa L)) (exec (t7c 1) (envLaw fa L)) (St1 h₀ L x ox (fun f m' h' => f = .next ∧ (∀ y, m' y = m y)) s) E s := by
  (try unfold t7c); (try unfold t7b); (try unfold t6L); (try unfold t6R); (try unfold est); (try unfold ust); (try unfold tst)
  have F := fr_chain F l0
  have F := fr_chain F ((chain_eq rfl l0).trans l1)
  have F := fr_chain F ((chain_eq (chain_eq rfl l0) l1).trans l2)
  unfold envLaw at *
  conv => enter [3, 1]; whnf
  conv => pattern (occs := *) lawScope; all_goals whnf
  w_on
  w_strict k_steps
  all_goals first
    | exact st1_intro (by assumption) (by assumption) (by k_mem) ⟨rfl, (fun y => (chain_eq (chain_eq (chain_eq rfl l0) l1) l2))⟩
    | (exfalso; simp_all; done)

theorem d7_sn (F : Fr h₀ L s.heap m)
    (N : News h₀ L s.heap [(L+1+1+1, oP), (L+1+1+1+1+1+1, oT), (NM, W.listOf #[.str nm t4, .str nm2 t3] cN), (P, oPT), (PT, oTB), (x, ox)])
    (hP : oP.data = .cell (some (.ref P))) (hT : oT.data = .cell (some (.ref PT)))
    (hPT : oPT.IsDictOf (strKind prg w) kP) (lP : (P == sysModules) = false) (lk : kP.length ≤ 1000) 
    (v1 : valueAt kP mod = some (.ref PT)) (hTB : oTB.IsDictOf (strKind prg w) kT) (lT : (PT == sysModules) = false)
    (v2 : valueAt kT nm = some (.ref tp1))
    (v3 : valueAt kT nm2 = none)
    (l0 : m (Str.ofString "names") = some (.ref NM))
    (l1 : m (Str.ofString "module") = some (.str mod t1))
    (l2 : m (Str.ofString "answer") = some (.str (Str.ofString "refused") t2)) :
    wpAny (model prg w) (callerA.deeper (envLaw fa L)) (exec (t7c 1) (envLaw fa L)) (St1 h₀ L x ox (fun f m' h' => f = .next ∧ (∀ y, m' y = m y)) s) E s := by
  (try unfold t7c); (try unfold t7b); (try unfold t6L); (try unfold t6R); (try unfold est); (try unfold ust); (try unfold tst)
  have F := fr_chain F l0
  have F := fr_chain F ((chain_eq rfl l0).trans l1)
  have F := fr_chain F ((chain_eq (chain_eq rfl l0) l1).trans l2)
  unfold envLaw at *
  conv => enter [3, 1]; whnf
  conv => pattern (occs := *) lawScope; all_goals whnf
  w_on
  w_strict k_steps
  all_goals first
    | exact st1_intro (by assumption) (by assumption) (by k_mem) ⟨rfl, (fun y => (chain_eq (chain_eq (chain_eq rfl l0) l1) l2))⟩
    | (exfalso; simp_all; done)

theorem d7_ss {AN : Nat} (F : Fr h₀ L s.heap m)
    (N : News h₀ L s.heap [(L+1+1+1, oP), (L+1+1+1+1+1+1, oT), (NM, W.listOf #[.str nm t4, .str nm2 t3] cN), (P, oPT), (PT, oTB), (AN, W.listOf #[.ref tp1, .ref tp2] cL), (x, ox)])
    (hP : oP.data = .cell (some (.ref P))) (hT : oT.data = .cell (some (.ref PT)))
    (hPT : oPT.IsDictOf (strKind prg w) kP) (lP : (P == sysModules) = false) (lk : kP.length ≤ 1000) 
    (v1 : valueAt kP mod = some (.ref PT)) (hTB : oTB.IsDictOf (strKind prg w) kT) (lT : (PT == sysModules) = false)
    (v2 : valueAt kT nm = some (.ref tp1))
    (v3 : valueAt kT nm2 = some (.ref tp2))
    (l0 : m (Str.ofString "names") = some (.ref NM))
    (l1 : m (Str.ofString "module") = some (.str mod t1))
    (l2 : m (Str.ofString "answer") = some (.ref AN)) :
    wpAny (model prg w) (callerA.deeper (envLaw fa L)) (exec (t7c 1) (envLaw fa L)) (St1 h₀ L x ox (fun f m' h' => f = .next ∧ (∀ y, m' y = m y)) s) E s := by
  (try unfold t7c); (try unfold t7b); (try unfold t6L); (try unfold t6R); (try unfold est); (try unfold ust); (try unfold tst)
  have F := fr_chain F l0
  have F := fr_chain F ((chain_eq rfl l0).trans l1)
  have F := fr_chain F ((chain_eq (chain_eq rfl l0) l1).trans l2)
  unfold envLaw at *
  conv => enter [3, 1]; whnf
  conv => pattern (occs := *) lawScope; all_goals whnf
  w_on
  w_strict k_steps
  all_goals first
    | exact st1_intro (by assumption) (by assumption) (by k_mem) ⟨rfl, (fun y => (chain_eq (chain_eq (chain_eq rfl l0) l1) l2))⟩
    | (exfalso; simp_all; done)
end
end Mine
local macro_rules | `(tactic| walk_at "MYSZ") => `(tactic| first | exact Nat.le_of_ble_eq_true rfl | (simp only [List.length_cons, List.length_append, List.length_nil, List.size_toArray, PySem.sizeLine_eq]; omega))
local macro_rules | `(tactic| walk_at "binaryOp Add ref ref") => `(tactic| (k_here; k_dflt (refine' Mine.addL ?F ?N ?a ?b ?z ?_; (case F => k_asm); (case N => k_asm); (case a => k_mem); (case b => k_mem); (case z => walk_at "MYSZ")); intro D' h' F' N' l1; (try k_lt l1)))
local macro_rules | `(tactic| walk_at "subscriptTail") => `(tactic| (k_here; (with_reducible show wpAny _ _ (subscriptTail _ (PySem.Expr.Slice _ _ none _) (Value.ref _) (Value.ref _)) _ _ _); k_dflt (refine' Mine.cutL ?F ?N ?l ?p ?q ?e ?_ ?s ?z; (case F => k_asm); (case N => k_asm); (case l => k_mem); (case p => first | exact IsPart.none | exact IsPart.int _ _); (case q => first | exact IsPart.none | exact IsPart.int _ _); (case e => first | exact Mine.cut_first _ _ | exact Mine.cut_last _ _); (case s => with_unfolding_all rfl); (case z => walk_at "MYSZ")); intro D' h' F' N' l1; (try k_lt l1)))
namespace Mine
section
variable {w : World} {s : Shared} {h₀ : Heap} {fa L B DB MS TM x nd nd2 f cc sc P PT TB NM NO LB n1 d1 tp1 n2 d2 tp2 TT : Nat} {m mg mb : Str → Option Value} {loose : List Str} {mean : ExcName → Option Value} {oMS oTM oPT oTB ox oS oB oP oK oD oT oc on1 od1 on2 od2 : Obj} {cN cO cL : Nat} {vT : Option Value} {tk t1 t2 t3 t4 t5 tq : Tok} {mod nm nm2 lab lab2 a b : Str} {kM kT kP kV : List (Str × Value)}
    {dc pm ct : Value} {vs : List Value} {ns : List Int} {k dr deed c : Int} {vsc : Array Value} {vD : Option Value} {E : Value → Shared → Prop} {q1 q2 q3 u1 u2 u3 y1 y2 y3 : Tok} {tN : Value}
    (X : (hd.heap_39 w.params).In h₀) (T : Top topProg loose mean mg mb h₀) (Bl : Below callerA h₀ [] h₀)
include X T Bl
theorem ust1_e {LH : Nat} (F : Fr h₀ L s.heap m)
    (N : News h₀ L s.heap [(L+1+1+1+1+1, oD), (LH, W.listOf ([] : List Value).toArray cL), (x, ox)])
    (hD : oD.data = .cell (some (.int dr t1)))
    (hlt : L+1+1+1+1+1 < LH)
    (l0 : m (Str.ofString "here") = some (.ref LH)) :
    wpAny (model prg w) (callerA.deeper (envLaw fa L)) (exec (ust 1) (envLaw fa L)) (St1 h₀ L x ox (fun f m' h' => f = .next ∧ (∀ y, y ≠ (Str.ofString "names") → m' y = m y) ∧ ∃ NM : Nat, m' (Str.ofString "names") = some (.ref NM) ∧ x < NM ∧ ((∃ n, h'.get? NM = some (W.listOf #[] n)) ∨ (∃ n u0, h'.get? NM = some (W.listOf #[.str (Str.ofString "one") u0] n)) ∨ (∃ n u0, h'.get? NM = some (W.listOf #[.str (Str.ofString "two") u0] n)) ∨ (∃ n u0 u1, h'.get? NM = some (W.listOf #[.str (Str.ofString "none") u0, .str (Str.ofString "two") u1] n)))) s) E s := by
  (try unfold t7c); (try unfold t7b); (try unfold t6L); (try unfold t6R); (try unfold est); (try unfold ust); (try unfold tst)
  have F := fr_chain F l0
  unfold envLaw at *
  conv => enter [3, 1]; whnf
  conv => pattern (occs := *) lawScope; all_goals whnf
  w_on
  w_strict k_steps
  all_goals first
    | exact st1_intro (by assumption) (by assumption) (by k_mem) ⟨rfl, (fun y hy => (if_neg hy).trans ((chain_eq rfl l0))), _, if_pos rfl, by omega, .inl ⟨_, News.get (by assumption) (by k_mem)⟩⟩
    | exact st1_intro (by assumption) (by assumption) (by k_mem) ⟨rfl, (fun y hy => (if_neg hy).trans ((chain_eq rfl l0))), _, if_pos rfl, by omega, .inr (.inl ⟨_, _, News.get (by assumption) (by k_mem)⟩)⟩
    | exact st1_intro (by assumption) (by assumption) (by k_mem) ⟨rfl, (fun y hy => (if_neg hy).trans ((chain_eq rfl l0))), _, if_pos rfl, by omega, .inr (.inr (.inl ⟨_, _, News.get (by assumption) (by k_mem)⟩))⟩
    | exact st1_intro (by assumption) (by assumption) (by k_mem) ⟨rfl, (fun y hy => (if_neg hy).trans ((chain_eq rfl l0))), _, if_pos rfl, by omega, .inr (.inr (.inr (⟨_, _, _, News.get (by assumption) (by k_mem)⟩)))⟩

theorem ust1_n {LH : Nat} {r0 : List Value} (F : Fr h₀ L s.heap m)
    (N : News h₀ L s.heap [(L+1+1+1+1+1, oD), (LH, W.listOf ((.str a t4 : Value) :: r0).toArray cL), (x, ox)])
    (hD : oD.data = .cell (some (.int dr t1)))
    (hlt : L+1+1+1+1+1 < LH)
    (hr0 : r0.length ≤ 900)
    (l0 : m (Str.ofString "here") = some (.ref LH)) :
    wpAny (model prg w) (callerA.deeper (envLaw fa L)) (exec (ust 1) (envLaw fa L)) (St1 h₀ L x ox (fun f m' h' => f = .next ∧ (∀ y, y ≠ (Str.ofString "names") → m' y = m y) ∧ ∃ NM : Nat, m' (Str.ofString "names") = some (.ref NM) ∧ x < NM ∧ ((∃ n, h'.get? NM = some (W.listOf #[] n)) ∨ (∃ n u0, h'.get? NM = some (W.listOf #[.str a u0] n)) ∨ (∃ n u0, h'.get? NM = some (W.listOf #[.str (Str.ofString "two") u0] n)) ∨ (∃ n u0 u1, h'.get? NM = some (W.listOf #[.str a u0, .str (Str.ofString "two") u1] n)))) s) E s := by
  (try unfold t7c); (try unfold t7b); (try unfold t6L); (try unfold t6R); (try unfold est); (try unfold ust); (try unfold tst)
  have F := fr_chain F l0
  unfold envLaw at *
  conv => enter [3, 1]; whnf
  conv => pattern (occs := *) lawScope; all_goals whnf
  w_on
  w_strict k_steps
  all_goals first
    | exact st1_intro (by assumption) (by assumption) (by k_mem) ⟨rfl, (fun y hy => (if_neg hy).trans ((chain_eq rfl l0))), _, if_pos rfl, by omega, .inl ⟨_, News.get (by assumption) (by k_mem)⟩⟩
    | exact st1_intro (by assumption) (by assumption) (by k_mem) ⟨rfl, (fun y hy => (if_neg hy).trans ((chain_eq rfl l0))), _, if_pos rfl, by omega, .inr (.inl ⟨_, _, News.get (by assumption) (by k_mem)⟩)⟩
    | exact st1_intro (by assumption) (by assumption) (by k_mem) ⟨rfl, (fun y hy => (if_neg hy).trans ((chain_eq rfl l0))), _, if_pos rfl, by omega, .inr (.inr (.inl ⟨_, _, News.get (by assumption) (by k_mem)⟩))⟩
    | exact st1_intro (by assumption) (by assumption) (by k_mem) ⟨rfl, (fun y hy => (if_neg hy).trans ((chain_eq rfl l0))), _, if_pos rfl, by omega, .inr (.inr (.inr (⟨_, _, _, News.get (by assumption) (by k_mem)⟩)))⟩
end
end Mine
local macro_rules | `(tactic| walk_at "compareOp NotEq ref ref") => `(tactic| (k_here; k_dflt (first
  | (refine' Mine.ne_lens ?N ?a ?b ?z ?r ?_; (case N => k_asm); (case a => k_mem); (case b => k_mem); (case z => exact rfl); (case r => walk_at "MYROOM"))
  | (refine' Mine.ne_ident ?N ?a ?b ?z ?r ?_; (case N => k_asm); (case a => k_mem); (case b => k_mem); (case z => exact rfl); (case r => walk_at "MYROOM")))))
local macro_rules | `(tactic| walk_at "CompRestT") => `(tactic| (with_unfolding_all (refine LCt.CompRestT.succ ?_; intro v' I' oI' C' oC' D' m' h' tk' E' hv' hC' hx' F' N' off' ne'; (first | lcg_open hv' | (obtain ⟨t9', hv9'⟩ := hv'; subst hv9')); (try simp only [LCg.Off3, and_true] at off'); (iterate 14 (try (obtain ⟨⟨_, _, _⟩, off'⟩ := off'))); (try (obtain ⟨_, _, _⟩ := off')); (try (obtain ⟨_, _, _⟩ := ne')))))
namespace Mine
section
variable {w : World} {s : Shared} {h₀ : Heap} {fa L B DB MS TM x nd nd2 f cc sc P PT TB NM NO LB n1 d1 tp1 n2 d2 tp2 TT : Nat} {m mg mb : Str → Option Value} {loose : List Str} {mean : ExcName → Option Value} {oMS oTM oPT oTB ox oS oB oP oK oD oT oc on1 od1 on2 od2 : Obj} {cN cO cL : Nat} {vT : Option Value} {tk t1 t2 t3 t4 t5 tq : Tok} {mod nm nm2 lab lab2 a b : Str} {kM kT kP kV : List (Str × Value)}
    {dc pm ct : Value} {vs : List Value} {ns : List Int} {k dr deed c : Int} {vsc : Array Value} {vD : Option Value} {E : Value → Shared → Prop} {q1 q2 q3 u1 u2 u3 y1 y2 y3 : Tok} {tN : Value}
    (X : (hd.heap_39 w.params).In h₀) (T : Top topProg loose mean mg mb h₀) (Bl : Below callerA h₀ [] h₀)
include X T Bl
theorem u3i_0 {LH : Nat} (F : Fr h₀ L s.heap m)
    (N : News h₀ L s.heap [(NM, W.listOf #[] cN), (x, ox)])
    (l0 : m (Str.ofString "names") = some (.ref NM))
    (l1 : m (Str.ofString "here") = some (.ref LH)) :
    wpAny (model prg w) (callerA.deeper (envLaw fa L)) (eval (forI (ust 3)) (envLaw fa L)) (St1 h₀ L x ox (fun v m' h' => v = .ref LH ∧ (∀ y, m' y = m y)) s) E s := by
  (try unfold t7c); (try unfold t7b); (try unfold t6L); (try unfold t6R); (try unfold est); (try unfold ust); (try unfold tst)
  have F := fr_chain F l0
  have F := fr_chain F ((chain_eq rfl l0).trans l1)
  unfold envLaw at *
  conv => enter [3, 1]; whnf
  conv => pattern (occs := *) lawScope; all_goals whnf
  w_on
  w_strict k_steps
  all_goals exact st1_intro (by assumption) (by assumption) (by k_mem) ⟨rfl, (fun y => (chain_eq (chain_eq rfl l0) l1))⟩

theorem u3i_1 {LH : Nat} (F : Fr h₀ L s.heap m)
    (N : News h₀ L s.heap [(NM, W.listOf #[.str nm t3] cN), (x, ox)])
    (l0 : m (Str.ofString "names") = some (.ref NM))
    (l1 : m (Str.ofString "here") = some (.ref LH)) :
    wpAny (model prg w) (callerA.deeper (envLaw fa L)) (eval (forI (ust 3)) (envLaw fa L)) (St1 h₀ L x ox (fun v m' h' => v = .ref NM ∧ (∀ y, m' y = m y)) s) E s := by
  (try unfold t7c); (try unfold t7b); (try unfold t6L); (try unfold t6R); (try unfold est); (try unfold ust); (try unfold tst)
  have F := fr_chain F l0
  have F := fr_chain F ((chain_eq rfl l0).trans l1)
  unfold envLaw at *
  conv => enter [3, 1]; whnf
  conv => pattern (occs := *) lawScope; all_goals whnf
  w_on
  w_strict k_steps
  all_goals exact st1_intro (by assumption) (by assumption) (by k_mem) ⟨rfl, (fun y => (chain_eq (chain_eq rfl l0) l1))⟩

theorem u3i_2 {LH : Nat} (F : Fr h₀ L s.heap m)
    (N : News h₀ L s.heap [(NM, W.listOf #[.str nm t3, .str nm2 t4] cN), (x, ox)])
    (l0 : m (Str.ofString "names") = some (.ref NM))
    (l1 : m (Str.ofString "here") = some (.ref LH)) :
    wpAny (model prg w) (callerA.deeper (envLaw fa L)) (eval (forI (ust 3)) (envLaw fa L)) (St1 h₀ L x ox (fun v m' h' => v = .ref NM ∧ (∀ y, m' y = m y)) s) E s := by
  (try unfold t7c); (try unfold t7b); (try unfold t6L); (try unfold t6R); (try unfold est); (try unfold ust); (try unfold tst)
  have F := fr_chain F l0
  have F := fr_chain F ((chain_eq rfl l0).trans l1)
  unfold envLaw at *
  conv => enter [3, 1]; whnf
  conv => pattern (occs := *) lawScope; all_goals whnf
  w_on
  w_strict k_steps
  all_goals exact st1_intro (by assumption) (by assumption) (by k_mem) ⟨rfl, (fun y => (chain_eq (chain_eq rfl l0) l1))⟩

theorem u3b_pop (F : Fr h₀ L s.heap m)
    (N : News h₀ L s.heap [(L+1+1+1+1+1+1, oT), (TB, oTB), (x, ox)])
    (hT : oT.data = .cell (some (.ref TB))) (hTB : oTB.IsDictOf (strKind prg w) kT) (lT : (TB == sysModules) = false) (hkT : kT.length ≤ 1000) (v1 : valueAt kT nm = some tN)
    (hlt : L+1+1+1+1+1+1 < TB)
    (hxD : x ≠ TB)
    (l0 : m (Str.ofString "due") = some (.str (Str.ofString "done") t1))
    (l1 : m (Str.ofString "name") = some (.str nm t2)) :
    wpAny (model prg w) (callerA.deeper (envLaw fa L)) (execs (forB (ust 3)) (envLaw fa L)) (St1 h₀ L x ox (fun f m' h' => f = .next ∧ (∀ y, m' y = m y) ∧ DIs w h' TB (without kT nm)) s) E s := by
  (try unfold t7c); (try unfold t7b); (try unfold t6L); (try unfold t6R); (try unfold est); (try unfold ust); (try unfold tst)
  have F := fr_chain F l0
  have F := fr_chain F ((chain_eq rfl l0).trans l1)
  unfold envLaw at *
  conv => enter [3, 1]; whnf
  conv => pattern (occs := *) lawScope; all_goals whnf
  w_on
  w_strict k_steps
  all_goals exact st1_intro (by assumption) (by assumption) (by k_mem) ⟨rfl, (fun y => (chain_eq (chain_eq rfl l0) l1)), ⟨_, News.get (by assumption) (by k_mem), by assumption, by assumption⟩⟩

theorem u3b_none (F : Fr h₀ L s.heap m)
    (N : News h₀ L s.heap [(L+1+1+1+1+1+1, oT), (TB, oTB), (x, ox)])
    (hT : oT.data = .cell (some (.ref TB))) (hTB : oTB.IsDictOf (strKind prg w) kT) (lT : (TB == sysModules) = false) (hkT : kT.length ≤ 1000) (v1 : valueAt kT nm = none)
    (hlt : L+1+1+1+1+1+1 < TB)
    (l0 : m (Str.ofString "due") = some (.str (Str.ofString "done") t1))
    (l1 : m (Str.ofString "name") = some (.str nm t2)) :
    wpAny (model prg w) (callerA.deeper (envLaw fa L)) (execs (forB (ust 3)) (envLaw fa L)) (St1 h₀ L x ox (fun f m' h' => f = .next ∧ (∃ t, m' (Str.ofString "due") = some (.str (Str.ofString "refused") t)) ∧ (∀ y, y ≠ (Str.ofString "due") → m' y = m y)) s) E s := by
  (try unfold t7c); (try unfold t7b); (try unfold t6L); (try unfold t6R); (try unfold est); (try unfold ust); (try unfold tst)
  have F := fr_chain F l0
  have F := fr_chain F ((chain_eq rfl l0).trans l1)
  unfold envLaw at *
  conv => enter [3, 1]; whnf
  conv => pattern (occs := *) lawScope; all_goals whnf
  w_on
  w_strict k_steps
  all_goals exact st1_intro (by assumption) (by assumption) (by k_mem) ⟨rfl, ⟨_, if_pos rfl⟩, (fun y hy => (if_neg hy).trans ((chain_eq (chain_eq rfl l0) l1)))⟩

theorem u3b_ref (F : Fr h₀ L s.heap m)
    (N : News h₀ L s.heap [(L+1+1+1+1+1+1, oT), (TB, oTB), (x, ox)])
    (hT : oT.data = .cell (some (.ref TB))) (hTB : oTB.IsDictOf (strKind prg w) kT) (lT : (TB == sysModules) = false) (hkT : kT.length ≤ 1000) 
    (hlt : L+1+1+1+1+1+1 < TB)
    (l0 : m (Str.ofString "due") = some (.str (Str.ofString "refused") t1))
    (l1 : m (Str.ofString "name") = some (.str nm t2)) :
    wpAny (model prg w) (callerA.deeper (envLaw fa L)) (execs (forB (ust 3)) (envLaw fa L)) (St1 h₀ L x ox (fun f m' h' => f = .next ∧ (∃ t, m' (Str.ofString "due") = some (.str (Str.ofString "refused") t)) ∧ (∀ y, y ≠ (Str.ofString "due") → m' y = m y)) s) E s := by
  (try unfold t7c); (try unfold t7b); (try unfold t6L); (try unfold t6R); (try unfold est); (try unfold ust); (try unfold tst)
  have F := fr_chain F l0
  have F := fr_chain F ((chain_eq rfl l0).trans l1)
  unfold envLaw at *
  conv => enter [3, 1]; whnf
  conv => pattern (occs := *) lawScope; all_goals whnf
  w_on
  w_strict k_steps
  all_goals exact st1_intro (by assumption) (by assumption) (by k_mem) ⟨rfl, ⟨_, if_pos rfl⟩, (fun y hy => (if_neg hy).trans ((chain_eq (chain_eq rfl l0) l1)))⟩
end
end Mine
local macro_rules | `(tactic| walk_at "call type:zip") => `(tactic| (k_here; k_dflt (refine' Mine.zipN ?F ?N ?a ?b ?c ?_; (case F => k_asm); (case N => k_asm); (case a => k_mem); (case b => k_mem); (case c => k_mem)); intro I' h' F' N' l1 zs'; (try k_lt l1)))
namespace Mine
section
variable {w : World} {s : Shared} {h₀ : Heap} {fa L B DB MS TM x nd nd2 f cc sc P PT TB NM NO LB n1 d1 tp1 n2 d2 tp2 TT : Nat} {m mg mb : Str → Option Value} {loose : List Str} {mean : ExcName → Option Value} {oMS oTM oPT oTB ox oS oB oP oK oD oT oc on1 od1 on2 od2 : Obj} {cN cO cL : Nat} {vT : Option Value} {tk t1 t2 t3 t4 t5 tq : Tok} {mod nm nm2 lab lab2 a b : Str} {kM kT kP kV : List (Str × Value)}
    {dc pm ct : Value} {vs : List Value} {ns : List Int} {k dr deed c : Int} {vsc : Array Value} {vD : Option Value} {E : Value → Shared → Prop} {q1 q2 q3 u1 u2 u3 y1 y2 y3 : Tok} {tN : Value}
    (X : (hd.heap_39 w.params).In h₀) (T : Top topProg loose mean mg mb h₀) (Bl : Below callerA h₀ [] h₀)
include X T Bl
theorem ezip3 {xs ys zs : Array Value} (F : Fr h₀ L s.heap m)
    (N : News h₀ L s.heap [(NM, W.listOf xs cN), (NO, W.listOf ys cO), (LB, W.listOf zs cL), (x, ox)])
    (l0 : m (Str.ofString "names") = some (.ref NM))
    (l1 : m (Str.ofString "nodes") = some (.ref NO))
    (l2 : m (Str.ofString "labels") = some (.ref LB)) :
    wpAny (model prg w) (callerA.deeper (envLaw fa L)) (eval (forI (est 3)) (envLaw fa L)) (St1 h₀ L x ox (fun v m' h' => (∀ y, m' y = m y) ∧ ∃ I : Nat, v = .ref (I + 5) ∧ ZSt I .none NM NO LB xs ys zs 0 h' ∧ x < I) s) E s := by
  (try unfold t7c); (try unfold t7b); (try unfold t6L); (try unfold t6R); (try unfold est); (try unfold ust); (try unfold tst)
  have F := fr_chain F l0
  have F := fr_chain F ((chain_eq rfl l0).trans l1)
  have F := fr_chain F ((chain_eq (chain_eq rfl l0) l1).trans l2)
  unfold envLaw at *
  conv => enter [3, 1]; whnf
  conv => pattern (occs := *) lawScope; all_goals whnf
  w_on
  w_strict k_steps
  all_goals exact st1_intro (by assumption) (by assumption) (by k_mem) ⟨(fun y => (chain_eq (chain_eq (chain_eq rfl l0) l1) l2)), _, rfl, by assumption, by omega⟩

theorem ezip5 {xs ys zs : Array Value} (F : Fr h₀ L s.heap m)
    (N : News h₀ L s.heap [(NM, W.listOf xs cN), (NO, W.listOf ys cO), (LB, W.listOf zs cL), (x, ox)])
    (l0 : m (Str.ofString "names") = some (.ref NM))
    (l1 : m (Str.ofString "nodes") = some (.ref NO))
    (l2 : m (Str.ofString "labels") = some (.ref LB)) :
    wpAny (model prg w) (callerA.deeper (envLaw fa L)) (eval (forI (est 5)) (envLaw fa L)) (St1 h₀ L x ox (fun v m' h' => (∀ y, m' y = m y) ∧ ∃ I : Nat, v = .ref (I + 5) ∧ ZSt I .none NM NO LB xs ys zs 0 h' ∧ x < I) s) E s := by
  (try unfold t7c); (try unfold t7b); (try unfold t6L); (try unfold t6R); (try unfold est); (try unfold ust); (try unfold tst)
  have F := fr_chain F l0
  have F := fr_chain F ((chain_eq rfl l0).trans l1)
  have F := fr_chain F ((chain_eq (chain_eq rfl l0) l1).trans l2)
  unfold envLaw at *
  conv => enter [3, 1]; whnf
  conv => pattern (occs := *) lawScope; all_goals whnf
  w_on
  w_strict k_steps
  all_goals exact st1_intro (by assumption) (by assumption) (by k_mem) ⟨(fun y => (chain_eq (chain_eq (chain_eq rfl l0) l1) l2)), _, rfl, by assumption, by omega⟩

theorem e5_asg (F : Fr h₀ L s.heap m)
    (N : News h₀ L s.heap [(TT, ({ cls := .type "tuple", data := .seq #[.str a t4, .ref n1, .str lab t5] } : Obj)), (x, ox)])
     :
    wpAny (model prg w) (callerA.deeper (envLaw fa L)) (assign (forT (est 5)) (envLaw fa L) (.ref TT)) (St1 h₀ L x ox (fun _ m' h' => (∃ t, m' (Str.ofString "name") = some (.str a t)) ∧ m' (Str.ofString "node") = some (.ref n1) ∧ (∃ t, m' (Str.ofString "label") = some (.str lab t)) ∧ (∀ y, y ≠ (Str.ofString "name") ∧ y ≠ (Str.ofString "node") ∧ y ≠ (Str.ofString "label") → m' y = m y)) s) E s := by
  (try unfold t7c); (try unfold t7b); (try unfold t6L); (try unfold t6R); (try unfold est); (try unfold ust); (try unfold tst)
  unfold envLaw at *
  conv => pattern (forT _); whnf
  conv => pattern (occs := *) lawScope; all_goals whnf
  w_on
  w_strict k_steps
  all_goals exact st1_intro (by assumption) (by assumption) (by k_mem) ⟨⟨t4, by first | exact if_pos rfl | exact (if_neg (by decide +kernel)).trans ((if_neg (by decide +kernel)).trans (if_pos rfl))⟩, by first | exact if_pos rfl | exact (if_neg (by decide +kernel)).trans (if_pos rfl), ⟨t5, by first | exact if_pos rfl | exact (if_neg (by decide +kernel)).trans ((if_neg (by decide +kernel)).trans (if_pos rfl))⟩, fun y hy => by (repeat' split) <;> simp_all⟩

theorem e5_l (F : Fr h₀ L s.heap m)
    (N : News h₀ L s.heap [(n1, instObj 170 d1), (d1, nD w u1 u2 u3 tp1 lab), (x, ox)])
    (l0 : m (Str.ofString "node") = some (.ref n1)) :
    wpAny (model prg w) (callerA.deeper (envLaw fa L)) (eval (cmpL (nth (forB (est 5)) 0)) (envLaw fa L)) (St1 h₀ L x ox (fun v m' h' => (∀ y, m' y = m y) ∧ v = .ref tp1) s) E s := by
  (try unfold t7c); (try unfold t7b); (try unfold t6L); (try unfold t6R); (try unfold est); (try unfold ust); (try unfold tst)
  have F := fr_chain F l0
  unfold envLaw at *
  conv => enter [3, 1]; whnf
  conv => pattern (occs := *) lawScope; all_goals whnf
  w_on
  w_strict k_steps
  all_goals exact st1_intro (by assumption) (by assumption) (by k_mem) ⟨(fun y => (chain_eq rfl l0)), rfl⟩

theorem e5_r (F : Fr h₀ L s.heap m)
    (N : News h₀ L s.heap [(L+1+1+1+1+1+1, oT), (TB, oTB), (x, ox)])
    (hT : oT.data = .cell (some (.ref TB))) (hTB : oTB.IsDictOf (strKind prg w) kT) (lT : (TB == sysModules) = false) (hkT : kT.length ≤ 1000)  :
    wpAny (model prg w) (callerA.deeper (envLaw fa L)) (eval (cmpR (nth (forB (est 5)) 0)) (envLaw fa L)) (St1 h₀ L x ox (fun v m' h' => (∀ y, m' y = m y) ∧ ∃ V, v = .ref V ∧ h'.IsValuesView V TB) s) E s := by
  (try unfold t7c); (try unfold t7b); (try unfold t6L); (try unfold t6R); (try unfold est); (try unfold ust); (try unfold tst)
  unfold envLaw at *
  conv => enter [3, 1]; whnf
  conv => pattern (occs := *) lawScope; all_goals whnf
  w_on
  w_strict k_steps
  all_goals exact st1_intro (by assumption) (by assumption) (by k_mem) ⟨(fun y => rfl), _, rfl, _, News.get (by assumption) (by k_mem), rfl, rfl⟩
end
end Mine
local macro_rules | `(tactic| walk_at "call type:list") => `(tactic| (k_here; (with_reducible show wpAny _ _ (call (Value.type "list") [Value.ref _]) _ _ _); k_dflt (refine' Mine.list_items ?H ?F ?N ?v ?p ?d ?z ?_; (case H => exact rfl); (case F => k_asm); (case N => k_asm); (case v => k_mem); (case p => k_mem); (case d => k_asm); (case z => walk_at "MYLEN")); intro B' h' tk' pa' F' N' l1; (try k_lt l1)))
namespace Mine
section
variable {w : World} {s : Shared} {h₀ : Heap} {fa L B DB MS TM x nd nd2 f cc sc P PT TB NM NO LB n1 d1 tp1 n2 d2 tp2 TT : Nat} {m mg mb : Str → Option Value} {loose : List Str} {mean : ExcName → Option Value} {oMS oTM oPT oTB ox oS oB oP oK oD oT oc on1 od1 on2 od2 : Obj} {cN cO cL : Nat} {vT : Option Value} {tk t1 t2 t3 t4 t5 tq : Tok} {mod nm nm2 lab lab2 a b : Str} {kM kT kP kV : List (Str × Value)}
    {dc pm ct : Value} {vs : List Value} {ns : List Int} {k dr deed c : Int} {vsc : Array Value} {vD : Option Value} {E : Value → Shared → Prop} {q1 q2 q3 u1 u2 u3 y1 y2 y3 : Tok} {tN : Value}
    (X : (hd.heap_39 w.params).In h₀) (T : Top topProg loose mean mg mb h₀) (Bl : Below callerA h₀ [] h₀)
include X T Bl
theorem t6_it {C : Nat} {oC1 : Obj} (F : Fr h₀ L s.heap m)
    (N : News h₀ L s.heap [(C+1, oC1), (L+1+1, oB), (B, instObj 121 DB), (DB, bD w q1 q2 q3 (.int c t5) tN MS), (MS, oMS), (x, ox)])
    (hB : oB.data = .cell (some (.ref B))) (hM : oMS.IsDictOf (strKind prg w) kM) (lM : (MS == sysModules) = false) (v1 : valueAt kM mod = some (.ref TM))
    (hC1 : oC1.data = .cell (some (.str mod t1))) :
    wpAny (model prg w) (callerA.deeper (envLaw fa L)) (eval (lcI (lcE t6L)) (compEnvC (lcS t6L) [(Str.ofString "one", C + 1), (Str.ofString "builder", L + 1 + 1)] C (envLaw fa L))) (St1 h₀ L x ox (fun v m' h' => v = .ref TM ∧ (∀ y, m' y = m y)) s) E s := by
  (try unfold t7c); (try unfold t7b); (try unfold t6L); (try unfold t6R); (try unfold est); (try unfold ust); (try unfold tst)
  unfold envLaw at *
  conv => enter [3, 1]; whnf
  conv => pattern (occs := *) (lcS _); all_goals whnf
  conv => pattern (occs := *) lawScope; all_goals whnf
  w_on
  w_strict k_steps
  all_goals exact st1_intro (by assumption) (by assumption) (by k_mem) ⟨rfl, (fun y => rfl)⟩

theorem t6_el {C C2 : Nat} {oC1 oC2 : Obj} {m2 : Str → Option Value} (F : Fr h₀ L s.heap m)
    (N : News h₀ L s.heap [(C2, oC2), (C+1, oC1), (L+1+1, oB), (B, instObj 121 DB), (DB, bD w q1 q2 q3 (.int c t5) tN MS), (MS, oMS), (TM, oTM), (nd, instObj 170 d1), (d1, nD w u1 u2 u3 tp1 lab), (x, ox)])
    (hB : oB.data = .cell (some (.ref B))) (hM : oMS.IsDictOf (strKind prg w) kM) (lM : (MS == sysModules) = false) (v1 : valueAt kM mod = some (.ref TM))
    (hC1 : oC1.data = .cell (some (.str mod t1))) (hC2 : LCg.NsObj oC2 m2) (hm2 : m2 (Str.ofString "name") = some (.str nm t2))
    (hTM : oTM.IsDictOf (strKind prg w) kT) (lT : (TM == sysModules) = false) (v2 : valueAt kT nm = some (.ref nd)) :
    wpAny (model prg w) (callerA.deeper (envLaw fa L)) (eval (lcE (lcE t6L)) (compEnvC (lcS (lcE t6L)) [(Str.ofString "one", C + 1), (Str.ofString "builder", L + 1 + 1)] C2 (compEnvC (lcS t6L) [(Str.ofString "one", C + 1), (Str.ofString "builder", L + 1 + 1)] C (envLaw fa L)))) (St1 h₀ L x ox (fun v m' h' => (∀ y, m' y = m y) ∧ ∃ T n : Nat, v = .ref T ∧ h'.get? T = some ({ cls := .type "tuple", data := .seq #[.str nm t2, .ref tp1] n } : Obj) ∧ C2 < T ∧ C + 1 < T ∧ x < T) s) E s := by
  (try unfold t7c); (try unfold t7b); (try unfold t6L); (try unfold t6R); (try unfold est); (try unfold ust); (try unfold tst)
  unfold envLaw at *
  conv => enter [3, 1]; whnf
  conv => pattern (occs := *) (lcS _); all_goals whnf
  conv => pattern (occs := *) lawScope; all_goals whnf
  w_on
  w_strict k_steps
  all_goals exact st1_intro (by assumption) (by assumption) (by k_mem) ⟨(fun y => rfl), _, _, rfl, News.get (by assumption) (by k_mem), by omega, by omega, by omega⟩

theorem t6_r {C : Nat} {oC : Obj} {m2 : Str → Option Value} (F : Fr h₀ L s.heap m)
    (N : News h₀ L s.heap [(C, oC), (L+1+1+1, oP), (P, oPT), (PT, oTB), (x, ox)])
    (hC : LCg.NsObj oC m2) (hm2 : m2 (Str.ofString "one") = some (.str mod t1))
    (hP : oP.data = .cell (some (.ref P)))
    (hPT : oPT.IsDictOf (strKind prg w) kP) (lP : (P == sysModules) = false) (lk : kP.length ≤ 1000) (v1 : valueAt kP mod = some (.ref PT)) (hTB : oTB.IsDictOf (strKind prg w) kT) (lT : (PT == sysModules) = false) (hkT : kT.length ≤ 1000) :
    wpAny (model prg w) (callerA.deeper (envLaw fa L)) (eval (lcE t6R) (compEnvC (lcS t6R) [(Str.ofString "plain", L + 1 + 1 + 1)] C (envLaw fa L))) (St1 h₀ L x ox (fun v m' h' => (∀ y, m' y = m y) ∧ ∃ D : Nat, v = .ref D ∧ C < D ∧ x < D ∧ PairsAt kT D h') s) E s := by
  (try unfold t7c); (try unfold t7b); (try unfold t6L); (try unfold t6R); (try unfold est); (try unfold ust); (try unfold tst)
  unfold envLaw at *
  conv => enter [3, 1]; whnf
  conv => pattern (occs := *) (lcS _); all_goals whnf
  conv => pattern (occs := *) lawScope; all_goals whnf
  w_on
  w_strict k_steps
  all_goals exact st1_intro (by assumption) (by assumption) (by k_mem) ⟨(fun y => rfl), _, rfl, by omega, by omega, by assumption⟩

theorem t6_li (F : Fr h₀ L s.heap m)
    (N : News h₀ L s.heap [(L+1+1+1, oP), (x, ox)])
    (hP : oP.data = .cell (some (.ref P))) :
    wpAny (model prg w) (callerA.deeper (envLaw fa L)) (eval (lcI t6L) (envLaw fa L)) (St1 h₀ L x ox (fun v m' h' => v = .ref P ∧ (∀ y, m' y = m y)) s) E s := by
  (try unfold t7c); (try unfold t7b); (try unfold t6L); (try unfold t6R); (try unfold est); (try unfold ust); (try unfold tst)
  unfold envLaw at *
  conv => enter [3, 1]; whnf
  conv => pattern (occs := *) lawScope; all_goals whnf
  w_on
  w_strict k_steps
  all_goals exact st1_intro (by assumption) (by assumption) (by k_mem) ⟨rfl, (fun y => rfl)⟩

theorem t6_ri (F : Fr h₀ L s.heap m)
    (N : News h₀ L s.heap [(L+1+1+1, oP), (x, ox)])
    (hP : oP.data = .cell (some (.ref P))) :
    wpAny (model prg w) (callerA.deeper (envLaw fa L)) (eval (lcI t6R) (envLaw fa L)) (St1 h₀ L x ox (fun v m' h' => v = .ref P ∧ (∀ y, m' y = m y)) s) E s := by
  (try unfold t7c); (try unfold t7b); (try unfold t6L); (try unfold t6R); (try unfold est); (try unfold ust); (try unfold tst)
  unfold envLaw at *
  conv => enter [3, 1]; whnf
  conv => pattern (occs := *) lawScope; all_goals whnf
  w_on
  w_strict k_steps
  all_goals exact st1_intro (by assumption) (by assumption) (by k_mem) ⟨rfl, (fun y => rfl)⟩
end
end Mine
namespace Mine
section
variable {w : World} {s : Shared} {h₀ : Heap} {fa L B DB MS TM x nd nd2 f cc sc P PT TB NM NO LB n1 d1 tp1 n2 d2 tp2 TT : Nat} {m mg mb : Str → Option Value} {loose : List Str} {mean : ExcName → Option Value} {oMS oTM oPT oTB ox oS oB oP oK oD oT oc on1 od1 on2 od2 : Obj} {cN cO cL : Nat} {vT : Option Value} {tk t1 t2 t3 t4 t5 tq : Tok} {mod nm nm2 lab lab2 a b : Str} {kM kT kP kV : List (Str × Value)}
    {dc pm ct : Value} {vs : List Value} {ns : List Int} {k dr deed c : Int} {vsc : Array Value} {vD : Option Value} {E : Value → Shared → Prop} {q1 q2 q3 u1 u2 u3 y1 y2 y3 : Tok} {tN : Value}
    (X : (hd.heap_39 w.params).In h₀) (T : Top topProg loose mean mg mb h₀) (Bl : Below callerA h₀ [] h₀)
include X T Bl
theorem t7i (F : Fr h₀ L s.heap m)
    (N : News h₀ L s.heap [(x, ox)])
     :
    wpAny (model prg w) (callerA.deeper (envLaw fa L)) (eval (forI (tst 7)) (envLaw fa L)) (St1 h₀ L x ox (fun v m' h' => (∀ y, m' y = m y) ∧ ∃ LI n : Nat, ∃ t t' t'', v = .ref LI ∧ h'.get? LI = some (W.listOf #[.str (Str.ofString "Ma") t, .str (Str.ofString "Mb") t', .str (Str.ofString "Mc") t''] n) ∧ x < LI) s) E s := by
  (try unfold t7c); (try unfold t7b); (try unfold t6L); (try unfold t6R); (try unfold est); (try unfold ust); (try unfold tst)
  unfold envLaw at *
  conv => enter [3, 1]; whnf
  conv => pattern (occs := *) lawScope; all_goals whnf
  w_on
  w_strict k_steps
  all_goals exact st1_intro (by assumption) (by assumption) (by k_mem) ⟨(fun y => rfl), _, _, _, _, _, rfl, News.get (by assumption) (by k_mem), by omega⟩

theorem c7i (F : Fr h₀ L s.heap m)
    (N : News h₀ L s.heap [(x, ox)])
     :
    wpAny (model prg w) (callerA.deeper (envLaw fa L)) (eval (forI (t7b 1)) (envLaw fa L)) (St1 h₀ L x ox (fun v m' h' => (∀ y, m' y = m y) ∧ ∃ LI N1 N2 N3 n n1 n2 n3 : Nat, ∃ t1 t2 t3 t4, v = .ref LI ∧ h'.get? LI = some (W.listOf #[.ref N1, .ref N2, .ref N3] n) ∧ h'.get? N1 = some (W.listOf #[.str (Str.ofString "one") t1] n1) ∧ h'.get? N2 = some (W.listOf #[.str (Str.ofString "two") t2] n2) ∧ h'.get? N3 = some (W.listOf #[.str (Str.ofString "two") t3, .str (Str.ofString "one") t4] n3) ∧ x < LI ∧ x < N1 ∧ x < N2 ∧ x < N3) s) E s := by
  (try unfold t7c); (try unfold t7b); (try unfold t6L); (try unfold t6R); (try unfold est); (try unfold ust); (try unfold tst)
  unfold envLaw at *
  conv => enter [3, 1]; whnf
  conv => pattern (occs := *) lawScope; all_goals whnf
  w_on
  w_strict k_steps
  all_goals exact st1_intro (by assumption) (by assumption) (by k_mem) ⟨(fun y => rfl), _, _, _, _, _, _, _, _, _, _, _, _, rfl, News.get (by assumption) (by k_mem), News.get (by assumption) (by k_mem), News.get (by assumption) (by k_mem), News.get (by assumption) (by k_mem), by omega, by omega, by omega, by omega⟩
end
end Mine
namespace Mine
section
variable {w : World} {s : Shared} {h₀ : Heap} {fa L TB LI : Nat} {m mg mb : Str → Option Value} {loose : List Str} {mean : ExcName → Option Value}
    (X : (hd.heap_39 w.params).In h₀) (T : Top topProg loose mean mg mb h₀) (Bl : Below callerA h₀ [] h₀)
include X T Bl
abbrev nName : Str := Str.ofString "name"
abbrev nDue : Str := Str.ofString "due"
abbrev nNode : Str := Str.ofString "node"
abbrev nLabel : Str := Str.ofString "label"
abbrev nDone : Str := Str.ofString "done"
theorem ust3_loop (F : Fr h₀ L s.heap m) {ks : List Str} {vs : List Value} {c : Nat} {kT : List (Str × Value)} {d0 : Bool}
    (src : ∀ x ox, s.heap.get? x = some ox → h₀.get? x = none → x ≠ L → ∀ E, wpAny (model prg w) (callerA.deeper (envLaw fa L)) (eval (forI (ust 3)) (envLaw fa L)) (St1 h₀ L x ox (fun v m' _ => v = .ref LI ∧ ∀ y, m' y = m y) s) E s)
    (gL : s.heap.get? LI = some (W.listOf vs.toArray c)) (lL : L < LI) (sv : SV vs ks) (hLT : LI ≠ TB)
    (cT : CIs s.heap (L+1+1+1+1+1+1) (.ref TB)) (dT : DIs w s.heap TB kT) (lT : L+1+1+1+1+1+1 < TB) (hk : kT.length ≤ 1000) (due : ∃ t, m nDue = some (.str (txt d0) t)) (E : Value → Shared → Prop) :
    wpAny (model prg w) (callerA.deeper (envLaw fa L)) (exec (ust 3) (envLaw fa L)) (StX h₀ L [TB] (fun _ f m' h' => f = .next ∧ DIs w h' TB (cuts kT d0 ks).1 ∧ (∃ t, m' nDue = some (.str (txt (cuts kT d0 ks).2) t)) ∧ ∀ y, y ≠ nName ∧ y ≠ nDue → m' y = m y) s) E s := by
  obtain ⟨px, pos, e⟩ : ∃ px pos, ust 3 = .For (.Name nName px) (forI (ust 3)) (forB (ust 3)) [] pos := ⟨_, _, by with_unfolding_all rfl⟩
  obtain ⟨oT, gT, dTc⟩ := cT
  have i0 : Old h₀ L [] s.heap (L+1+1+1+1+1+1) := old_of F gT (by omega) (by simp)
  rw [e]
  refine wpAny_For (hs := by intro _; with_unfolding_all rfl) (wpAny_mono (lift_x F i0 fun x ox a b c _ => src x ox a b c _) (fun v s₁ h₁ => ?_) fun _ _ e => e)
  obtain ⟨m₁, lk₁, F₁, K₁, hP⟩ := h₁
  obtain ⟨rfl, hm⟩ := hP _ i0
  obtain rfl : m₁ = m := funext hm
  have k1 : ∀ (b : Nat) o, b ≠ L → s.heap.get? b = some o → s₁.heap.get? b = some o := fun b o n e => K₁ b o n (by simp) e
  have gL₁ := k1 _ _ (by omega) gL
  have gT₁ := k1 _ _ (by omega) gT
  have dT₁ : DIs w s₁.heap TB kT := dis_up dT fun o e => k1 _ _ (by omega) e
  have lTB : TB < s₁.heap.objs.size := by obtain ⟨o, g, _⟩ := dT₁; exact ltn g
  refine for_list (L := L) (D := [TB]) (J := fun i m' h' => DIs w h' TB (cuts kT d0 (ks.take i)).1 ∧ (∃ t, m' nDue = some (.str (txt (cuts kT d0 (ks.take i)).2) t)) ∧ ∀ y, y ≠ nName ∧ y ≠ nDue → m' y = m₁ y) rfl rfl rfl rfl gL₁ F₁ ⟨by omega, by simpa using hLT⟩ (fun d hd => by rw [List.mem_singleton.mp hd]; exact lTB)
    (fun i m h h' ⟨j1, j2, j3⟩ k => ⟨dis_up j1 fun o e => k _ _ lTB e, j2, j3⟩) ⟨by simpa [cuts] using dT₁, by simpa [cuts] using due, fun y _ => rfl⟩ ?_ (fun i m h h' ⟨j1, j2, j3⟩ k => ⟨dis_up j1 fun o e => k _ _ (by omega) e, j2, j3⟩) ?_
  · intro i v s₂ m₂ hv lk₂ F₂ K₂ ⟨j1, ⟨t, j2⟩, j3⟩ E'
    obtain ⟨ky, tk, hky, rfl⟩ := sv.2 i v (by simpa using hv)
    have gT₂ : s₂.heap.get? (L+1+1+1+1+1+1) = some oT := K₂ _ _ (by have := ltn gT₁; omega) (by omega) (by simp; omega) gT₁
    obtain ⟨oB, gB, hB, lB⟩ := j1
    have due₂ : (fun y => if y = nName then some (Value.str ky tk) else m₂ y) nDue = some (.str (txt (cuts kT d0 (ks.take i)).2) t) := (if_neg (by decide +kernel)).trans j2
    have nm₂ : (fun y => if y = nName then some (Value.str ky tk) else m₂ y) nName = some (.str ky tk) := if_pos rfl
    have lk : (cuts kT d0 (ks.take i)).1.length ≤ 1000 := Nat.le_trans cuts_len hk
    rw [cuts_take hky]
    have fin : ∀ {D : List Nat} {P : Nat → Flow → (Str → Option Value) → Heap → Prop} (x₀ : Nat) (_ : Old h₀ L D s₂.heap x₀) (_ : ∀ d ∈ D, d ∈ [TB]) (_ : ∀ f m' h', P x₀ f m' h' → Keeps L D s₂.heap h' → f = .next ∧ DIs w h' TB (cut (cuts kT d0 (ks.take i)) ky).1 ∧ (∃ t, m' nDue = some (.str (txt (cut (cuts kT d0 (ks.take i)) ky).2) t)) ∧ ∀ y, y ≠ nName ∧ y ≠ nDue → m' y = m₁ y)
        (f : Flow) (s₄ : Shared), StX h₀ L D P s₂ f s₄ → (f = .next ∧ ∃ m₄, Like s₂ s₄ ∧ Fr h₀ L s₄.heap m₄ ∧ Keeps L [TB] s₂.heap s₄.heap ∧ DIs w s₄.heap TB (cut (cuts kT d0 (ks.take i)) ky).1 ∧ (∃ t, m₄ nDue = some (.str (txt (cut (cuts kT d0 (ks.take i)) ky).2) t)) ∧ ∀ y, y ≠ nName ∧ y ≠ nDue → m₄ y = m₁ y) := by
      intro D P x₀ o hD hp f s₄ ⟨m₄, lk₄, F₄, K₄, hP⟩
      obtain ⟨rfl, q1, q2, q3⟩ := hp _ _ _ (hP _ o) K₄
      exact ⟨rfl, m₄, lk₄, F₄, K₄.mono hD, q1, q2, q3⟩
    have NN : ∀ x ox, s₂.heap.get? x = some ox → h₀.get? x = none → x ≠ L → News h₀ L s₂.heap [(L+1+1+1+1+1+1, oT), (TB, oB), (x, ox)] := fun x ox a b c => news_c F₂ gT₂ (by omega) (news_c F₂ gB (by omega) (news_1 a b c))
    have iB : Old h₀ L [TB] s₂.heap (L+1+1+1+1+1+1) := old_of F₂ gT₂ (by omega) (by simp; omega)
    have iA : Old h₀ L [] s₂.heap (L+1+1+1+1+1+1) := old_of F₂ gT₂ (by omega) (by simp)
    have kr : ∀ y, y ≠ nName ∧ y ≠ nDue → (fun y => if y = nName then some (Value.str ky tk) else m₂ y) y = m₁ y := fun y hy => (if_neg hy.1).trans (j3 y hy)
    generalize hcu : cuts kT d0 (ks.take i) = cu at *
    obtain ⟨kc, bc⟩ := cu
    cases bc with
    | false =>
      have e1 : cut (kc, false) ky = (kc, false) := by simp [cut]
      rw [e1] at fin ⊢
      refine wpAny_mono (lift_x F₂ iA fun x ox a b c d => u3b_ref X T Bl F₂ (NN x ox a b c) dTc hB lB lk (by omega) due₂ nm₂) (fin _ iA (by simp) fun f m' h' ⟨p1, p2, p3⟩ kp => ?_) fun _ _ e => e
      exact ⟨p1, ⟨oB, kp _ _ (by show TB ≠ L; omega) (by simp) gB, hB, lB⟩, p2, fun y hy => (p3 y hy.2).trans (kr y hy)⟩
    | true =>
      cases hv1 : valueAt kc ky with
      | none =>
        have e1 : cut (kc, true) ky = (kc, false) := by simp [cut, hv1]
        rw [e1] at fin ⊢
        refine wpAny_mono (lift_x F₂ iA fun x ox a b c d => u3b_none X T Bl F₂ (NN x ox a b c) dTc hB lB lk hv1 (by omega) due₂ nm₂) (fin _ iA (by simp) fun f m' h' ⟨p1, p2, p3⟩ kp => ?_) fun _ _ e => e
        exact ⟨p1, ⟨oB, kp _ _ (by show TB ≠ L; omega) (by simp) gB, hB, lB⟩, p2, fun y hy => (p3 y hy.2).trans (kr y hy)⟩
      | some v =>
        have e1 : cut (kc, true) ky = (without kc ky, true) := by simp [cut, hv1]
        rw [e1] at fin ⊢
        refine wpAny_mono (lift_x F₂ iB fun x ox a b c d => u3b_pop X T Bl F₂ (NN x ox a b c) dTc hB lB lk hv1 (by omega) (by simpa using d) due₂ nm₂) (fin _ iB (by simp) fun f m' h' ⟨p1, p2, p3⟩ kp => ?_) fun _ _ e => e
        exact ⟨p1, p3, ⟨t, (p2 _).trans due₂⟩, fun y hy => (p2 y).trans (kr y hy)⟩
  · intro s' m' lk' F' kp ⟨j1, j2, j3⟩
    have hz : vs.toArray.size = ks.length := by simpa using sv.1
    rw [hz, List.take_length] at j1 j2
    exact ⟨m', lk₁.trans lk', F', fun b o n hd e => kp b o (ltn (k1 b o n e)) n hd (k1 b o n e), fun _ _ => ⟨rfl, j1, j2, j3⟩⟩
end
end Mine
namespace Mine
theorem news_cons {h₀ h : Heap} {L : Nat} {a : Addr × Obj} {r : List (Addr × Obj)} (N1 : News h₀ L h [a]) (N2 : News h₀ L h r) : News h₀ L h (a :: r) := fun p hp => by
  rcases List.mem_cons.mp hp with rfl | hp
  · exact N1 _ (.head _)
  · exact N2 _ hp
theorem news_keep {h₀ h h' : Heap} {L : Nat} {D : List Nat} {a : Nat} {o : Obj} (N : News h₀ L h [(a, o)]) (K : Keeps L D h h') (hd : a ∉ D) : News h₀ L h' [(a, o)] := fun p hp => by
  rw [List.mem_singleton.mp hp]
  have := N _ (.head _)
  exact ⟨K _ _ this.2.1 hd this.1, this.2⟩
section
variable {w : World} {s : Shared} {h₀ : Heap} {fa L TB NM NO LB : Nat} {m mg mb : Str → Option Value} {loose : List Str} {mean : ExcName → Option Value}
    (X : (hd.heap_39 w.params).In h₀) (T : Top topProg loose mean mg mb h₀) (Bl : Below callerA h₀ [] h₀)
include X T Bl
theorem est3_loop (F : Fr h₀ L s.heap m) {es : List Nd} {xs ys zs : Array Value} {cN cO cL : Nat} {kT : List (Str × Value)}
    (nN : News h₀ L s.heap [(NM, W.listOf xs cN)]) (nO : News h₀ L s.heap [(NO, W.listOf ys cO)]) (nL : News h₀ L s.heap [(LB, W.listOf zs cL)]) (aN : NM ≠ TB) (aO : NO ≠ TB) (aL : LB ≠ TB)
    (zx : xs.size = es.length) (zy : ys.size = es.length) (zz : zs.size = es.length)
    (hx : ∀ (i : Nat) (e : Nd), es[i]? = some e → (∃ t, xs[i]? = some (Value.str e.nm t)) ∧ ys[i]? = some (Value.ref e.n) ∧ ∃ t, zs[i]? = some (Value.str e.lab t))
    (nodes : ∀ e ∈ es, NIs w s.heap e.n e.d e.tp e.lab ∧ TB < e.d ∧ e.d < e.n ∧ e.lab.length ≤ 1000)
    (cT : CIs s.heap (L+1+1+1+1+1+1) (.ref TB)) (dT : DIs w s.heap TB kT) (lT : L+1+1+1+1+1+1 < TB) (hk : kT.length ≤ 900) (he : es.length ≤ 9) (due : ∃ t, m nDue = some (.str (Str.ofString "done") t))
    (l0 : m (Str.ofString "names") = some (.ref NM)) (l1 : m (Str.ofString "nodes") = some (.ref NO)) (l2 : m (Str.ofString "labels") = some (.ref LB)) (E : Value → Shared → Prop) :
    wpAny (model prg w) (callerA.deeper (envLaw fa L)) (exec (est 3) (envLaw fa L)) (StX h₀ L [TB] (fun _ f m' h' => f = .next ∧ DIs w h' TB (puts (fun e => Value.ref e.tp) kT es).1 ∧ (∃ t, m' nDue = some (.str (txt (puts (fun e => Value.ref e.tp) kT es).2) t)) ∧ ∀ y, y ≠ nName ∧ y ≠ nNode ∧ y ≠ nLabel ∧ y ≠ nDue → m' y = m y) s) E s := by
  obtain ⟨elts, x1, tp, pos, e, eT⟩ : ∃ elts x1 tp pos, est 3 = .For (.Tuple elts x1 tp) (forI (est 3)) (forB (est 3)) [] pos ∧ forT (est 3) = .Tuple elts x1 tp := ⟨_, _, _, _, by with_unfolding_all rfl, by with_unfolding_all rfl⟩
  obtain ⟨oT, gT, dTc⟩ := cT
  have i0 : Old h₀ L [] s.heap (L+1+1+1+1+1+1) := old_of F gT (by omega) (by simp)
  rw [e]
  refine wpAny_For (hs := by intro _; with_unfolding_all rfl) (wpAny_mono (lift_x F i0 fun x ox a b c _ => ezip3 X T Bl F (news_cons nN (news_cons nO (news_cons nL (news_1 a b c)))) l0 l1 l2) (fun v s₁ h₁ => ?_) fun _ _ e => e)
  obtain ⟨m₁, lk₁, F₁, K₁, hP⟩ := h₁
  obtain ⟨hm, I, rfl, zst, _⟩ := hP _ i0
  obtain rfl : m₁ = m := funext hm
  have lI : ∀ x, Old h₀ L [] s.heap x → x < I := fun x hx => by
    obtain ⟨_, I', q, _, hlt⟩ := hP x hx
    have q' : I + 5 = I' + 5 := Value.ref.inj q
    omega
  have oldN : ∀ {a : Nat} {o : Obj}, News h₀ L s.heap [(a, o)] → Old h₀ L [] s.heap a := fun N => ⟨⟨_, (N _ (.head _)).1⟩, (N _ (.head _)).2.2, (N _ (.head _)).2.1, by simp⟩
  have k1 : ∀ (b : Nat) o, b ≠ L → s.heap.get? b = some o → s₁.heap.get? b = some o := fun b o n e => K₁ b o n (by simp) e
  have gT₁ := k1 _ _ (by omega) gT
  have dT₁ : DIs w s₁.heap TB kT := dis_up dT fun o e => k1 _ _ (by omega) e
  have bT : TB < I := lI _ (by obtain ⟨o, g, _⟩ := dT; exact old_of F g (by omega) (by simp))
  have bc : L+1+1+1+1+1+1 < I := lI _ i0
  have bn : ∀ e ∈ es, e.n < I ∧ e.d < I := fun e he => by
    obtain ⟨⟨g1, _, _, _, g2⟩, a1, a2, _⟩ := nodes e he
    exact ⟨lI _ (old_of F g1 (by omega) (by simp)), lI _ (old_of F g2 (by omega) (by simp))⟩
  refine wpAny_pyIter_zip zst.1 ?_
  refine for_zip (L := L) (D := [TB]) (J := fun i m' h' => DIs w h' TB (puts (fun e => Value.ref e.tp) kT (es.take i)).1 ∧ (∃ t, m' nDue = some (.str (txt (puts (fun e => Value.ref e.tp) kT (es.take i)).2) t)) ∧ ∀ y, y ≠ nName ∧ y ≠ nNode ∧ y ≠ nLabel ∧ y ≠ nDue → m' y = m₁ y)
    rfl zst F₁ (by omega) (lI _ (oldN nN)) (lI _ (oldN nO)) (lI _ (oldN nL)) ⟨(nN _ (.head _)).2.1, by simpa using aN⟩ ⟨(nO _ (.head _)).2.1, by simpa using aO⟩ ⟨(nL _ (.head _)).2.1, by simpa using aL⟩ (fun d hd => by rw [List.mem_singleton.mp hd]; exact bT) (by omega) (by omega)
    (fun i m h h' ⟨j1, j2, j3⟩ k => ⟨dis_up j1 fun o e => k _ _ bT e, j2, j3⟩) ⟨by simpa [puts] using dT₁, by simpa [puts, txt_t] using due, fun y _ => rfl⟩ ?_ ?_
  · intro i x y v TT s₂ m₂ hxi hyi hvi lk₂ F₂ K₂ ⟨j1, ⟨t, j2⟩, j3⟩ tri hTT E'
    obtain ⟨ed, hed⟩ : ∃ ed, es[i]? = some ed := by
      have : i < xs.size := by
        have := Array.getElem?_eq_some_iff.mp hxi
        exact this.1
      exact ⟨es[i]'(by omega), List.getElem?_eq_getElem _⟩
    obtain ⟨⟨tx, e1⟩, e2, tz, e3⟩ := hx i ed hed
    rw [hxi] at e1; cases e1
    rw [hyi] at e2; cases e2
    rw [hvi] at e3; cases e3
    have hmem : ed ∈ es := List.mem_of_getElem? hed
    obtain ⟨⟨g1, u1, u2, u3, g2⟩, ord1, ord2, llab⟩ := nodes ed hmem
    obtain ⟨b1, b2⟩ := bn ed hmem
    have k2 : ∀ (b : Nat) o, b < I → b ≠ L → b ≠ TB → s₁.heap.get? b = some o → s₂.heap.get? b = some o := fun b o x y z e => K₂ b o x y (by simpa using z) e
    have gT₂ := k2 _ _ bc (by omega) (by omega) gT₁
    have g1₂ := k2 _ _ b1 (by omega) (by omega) (k1 _ _ (by omega) g1)
    have g2₂ := k2 _ _ b2 (by omega) (by omega) (k1 _ _ (by omega) g2)
    obtain ⟨oB, gB, hB, lB⟩ := j1
    have lk : (puts (fun e => Value.ref e.tp) kT (es.take i)).1.length ≤ 1000 := Nat.le_trans puts_len (by rw [List.length_take]; omega)
    rw [puts_take hed, ← eT]
    have NN : ∀ x ox, s₂.heap.get? x = some ox → h₀.get? x = none → x ≠ L → News h₀ L s₂.heap [(TT, ({ cls := .type "tuple", data := .seq #[.str ed.nm tx, .ref ed.n, .str ed.lab tz] } : Obj)), (L+1+1+1+1+1+1, oT), (TB, oB), (ed.n, instObj 170 ed.d), (ed.d, nD w u1 u2 u3 ed.tp ed.lab), (x, ox)] :=
      fun x ox a b c => news_c F₂ tri (by omega) (news_c F₂ gT₂ (by omega) (news_c F₂ gB (by omega) (news_c F₂ g1₂ (by omega) (news_c F₂ g2₂ (by omega) (news_1 a b c)))))
    have iB : Old h₀ L [TB] s₂.heap (L+1+1+1+1+1+1) := old_of F₂ gT₂ (by omega) (by simp; omega)
    have iA : Old h₀ L [] s₂.heap (L+1+1+1+1+1+1) := old_of F₂ gT₂ (by omega) (by simp)
    have ord : L+1+1+1+1+1+1 < TB ∧ TB < ed.d ∧ ed.d < ed.n ∧ ed.n < TT := by omega
    generalize hcu : puts (fun e => Value.ref e.tp) kT (es.take i) = cu at *
    obtain ⟨kc, bcu⟩ := cu
    have fin : ∀ {D : List Nat} {P : Nat → Flow → (Str → Option Value) → Heap → Prop} (x₀ : Nat) (_ : Old h₀ L D s₂.heap x₀) (_ : ∀ d ∈ D, d ∈ [TB]) (r : List (Str × Value) × Bool) (_ : ∀ f m' h', P x₀ f m' h' → f = .next ∧ DIs w h' TB r.1 ∧ (∃ t, m' nDue = some (.str (txt r.2) t)) ∧ ∀ y, y ≠ nName ∧ y ≠ nNode ∧ y ≠ nLabel ∧ y ≠ nDue → m' y = m₂ y)
        (f : Flow) (s₄ : Shared), StX h₀ L D P s₂ f s₄ → (f = .next ∧ ∃ m₄, Like s₂ s₄ ∧ Fr h₀ L s₄.heap m₄ ∧ Keeps L [TB] s₂.heap s₄.heap ∧ DIs w s₄.heap TB r.1 ∧ (∃ t, m₄ nDue = some (.str (txt r.2) t)) ∧ ∀ y, y ≠ nName ∧ y ≠ nNode ∧ y ≠ nLabel ∧ y ≠ nDue → m₄ y = m₁ y) := by
      intro D P x₀ o hD r hp f s₄ ⟨m₄, lk₄, F₄, K₄, hP⟩
      obtain ⟨rfl, q1, q2, q3⟩ := hp _ _ _ (hP _ o)
      exact ⟨rfl, m₄, lk₄, F₄, K₄.mono hD, q1, q2, fun y hy => (q3 y hy).trans (j3 y hy)⟩
    cases bcu with
    | false =>
      have e1 : put (fun e => Value.ref e.tp) (kc, false) ed = (kc, false) := by simp [put]
      rw [e1]
      refine wpAny_mono (lift_x2 F₂ iA fun x ox a b c d => e3_ref X T Bl F₂ (NN x ox a b c) dTc hB lB lk ord j2) (fun _ s₃ h₃ => wpAny_mono h₃ (fin _ iA (by simp) (kc, false) fun f m' h' ⟨p1, p2, p3, p4⟩ => ⟨p1, p2, p3, fun y hy => p4 y ⟨hy.2.2.1, hy.2.1, hy.1, hy.2.2.2⟩⟩) fun _ _ e => e) fun _ _ e => e
    | true =>
      cases hv1 : valueAt kc ed.nm with
      | some v =>
        have e1 : put (fun e => Value.ref e.tp) (kc, true) ed = (kc, false) := by simp [put, hv1]
        rw [e1]
        refine wpAny_mono (lift_x2 F₂ iA fun x ox a b c d => e3_in X T Bl F₂ (NN x ox a b c) dTc hB lB lk hv1 ord j2) (fun _ s₃ h₃ => wpAny_mono h₃ (fin _ iA (by simp) (kc, false) fun f m' h' ⟨p1, p2, p3, p4⟩ => ⟨p1, p2, p3, fun y hy => p4 y ⟨hy.2.2.1, hy.2.1, hy.1, hy.2.2.2⟩⟩) fun _ _ e => e) fun _ _ e => e
      | none =>
        have e1 : put (fun e => Value.ref e.tp) (kc, true) ed = (stored kc ed.key (.ref ed.tp), true) := by simp [put, hv1]
        rw [e1]
        by_cases hl : ed.lab = Str.ofString ""
        · have ek : ed.key = ed.nm := if_pos hl
          rw [ek]
          refine wpAny_mono (lift_x2 F₂ iB fun x ox a b c d => e3_e X T Bl F₂ (by have := NN x ox a b c; rw [hl] at this; exact this) dTc hB lB lk hv1 ord (by simpa using d) j2) (fun _ s₃ h₃ => wpAny_mono h₃ (fin _ iB (by simp) (_, true) fun f m' h' ⟨p1, p2, p3, p4⟩ => ⟨p1, p2, p3, fun y hy => p4 y ⟨hy.2.2.1, hy.2.1, hy.1⟩⟩) fun _ _ e => e) fun _ _ e => e
        · have ek : ed.key = ed.lab := if_neg hl
          rw [ek]
          refine wpAny_mono (lift_x2 F₂ iB fun x ox a b c d => e3_l X T Bl F₂ (NN x ox a b c) dTc hB lB lk hv1 (by simpa using hl) llab ord (by simpa using d) j2) (fun _ s₃ h₃ => wpAny_mono h₃ (fin _ iB (by simp) (_, true) fun f m' h' ⟨p1, p2, p3, p4⟩ => ⟨p1, p2, p3, fun y hy => p4 y ⟨hy.2.2.1, hy.2.1, hy.1⟩⟩) fun _ _ e => e) fun _ _ e => e
  · intro s' m' lk' F' kp ⟨j1, j2, j3⟩
    rw [zx, List.take_length] at j1 j2
    refine ⟨m', lk₁.trans lk', F', fun b o n hd e => ?_, fun _ _ => ⟨rfl, j1, j2, j3⟩⟩
    cases q : h₀.get? b with
    | some o' =>
      have := F.keep b o' q
      rw [e] at this; cases this
      exact F'.keep b o q
    | none => exact kp b o (lI b ⟨⟨o, e⟩, q, n, by simp⟩) n hd (k1 b o n e)
end
end Mine
namespace Mine
open PySem.SeqAt
def TupNum (h : Heap) (t : Nat) (num : Int) : Prop := ∃ u v n, h.get? t = some ({ cls := .type "tuple", data := .seq #[.int 1 u, .int num v] n } : Obj)
theorem TupNum.up {h h' : Heap} {t : Nat} {num : Int} (x : TupNum h t num) (k : ∀ o, h.get? t = some o → h'.get? t = some o) : TupNum h' t num := by
  obtain ⟨u, v, n, g⟩ := x; exact ⟨u, v, n, k _ g⟩
theorem eq_nums {A : Around} {s : Shared} {a b : Nat} {n1 n2 : Int} (ha : TupNum s.heap a n1) (hb : TupNum s.heap b n2) (hu : A.units < cLine) : EqAt A s (.ref a) (.ref b) (n1 == n2) := by
  obtain ⟨u, v, n, g1⟩ := ha
  obtain ⟨u', v', n', g2⟩ := hb
  by_cases hab : a = b
  · subst hab
    rw [g1] at g2
    have e : n1 = n2 := by
      have h := congrArg (fun o : Option Obj => o.map (·.data)) g2
      simp at h
      exact h.1.2.1
    rw [e, beq_self_eq_true]
    exact EqAt.same _
  · have h := RcAt.tuples (A := A) (s := s) (l := a) (b := b) (e := fun j => if j = 0 then true else n1 == n2) ⟨_, g1, rfl, _, rfl⟩ ⟨_, g2, rfl, _, rfl⟩ hu (fun j h1 h2 => by
      have h1' : j < 2 := h1
      have hj : j = 0 ∨ j = 1 := by omega
      rcases hj with rfl | rfl
      · exact EqAt.int_int 1 u 1 u'
      · exact EqAt.int_int n1 v n2 v')
    refine EqAt.of_refs hab ?_
    have e : ((List.range (min 2 2)).all (fun j => if j = 0 then true else n1 == n2) && (2 == 2)) = (n1 == n2) := by
      simp [List.range_succ]
    exact e ▸ h
theorem last {prog : Program} {w : World} {A : Around} {h₀ : Heap} {L : Nat} {D : List Nat} {P : Nat → Flow → (Str → Option Value) → Heap → Prop} {Q : Flow → Shared → Prop} {E : Value → Shared → Prop} {s : Shared} {st : Stmt} {env : Env} {x₀ : Nat}
    (H : wpAny (model prog w) A (exec st env) (StX h₀ L D P s) E s) (i0 : Old h₀ L D s.heap x₀) (hP : ∀ x f m' h', P x f m' h' → f = .next)
    (k : ∀ s' m', Like s s' → Fr h₀ L s'.heap m' → Keeps L D s.heap s'.heap → (∀ x, Old h₀ L D s.heap x → P x .next m' s'.heap) → Q .next s') :
    wpAny (model prog w) A (execs [st] env) Q E s := seq H i0 hP fun s' m' a b c d => wpAny_execs_nil (k s' m' a b c d)
section
variable {w : World} {s : Shared} {h₀ : Heap} {fa L TB NM NO LB : Nat} {m mg mb : Str → Option Value} {loose : List Str} {mean : ExcName → Option Value}
    (X : (hd.heap_39 w.params).In h₀) (T : Top topProg loose mean mg mb h₀) (Bl : Below callerA h₀ [] h₀)
include X T Bl
theorem e5_done (F : Fr h₀ L s.heap m) {n d tp : Nat} {lab : Str} {kV : List (Str × Value)} {num : Int} (node : m nNode = some (.ref n)) (nis : NIs w s.heap n d tp lab) (ln : L < n ∧ L < d)
    (cT : CIs s.heap (L+1+1+1+1+1+1) (.ref TB)) (dT : DIs w s.heap TB kV) (lT : L+1+1+1+1+1+1 < TB) (hk : kV.length ≤ 1000)
    (V5 : ∀ y ∈ kV.map (·.2), ∃ (ty : Nat) (k : Int), y = .ref ty ∧ ty ≠ L ∧ TupNum s.heap ty k) (ht : TupNum s.heap tp num) (htL : tp ≠ L) {b : Bool}
    (hb : (b = true ∧ (Value.ref tp) ∈ kV.map (·.2)) ∨ (b = false ∧ ∀ (ty : Nat) (k : Int), (Value.ref ty) ∈ kV.map (·.2) → TupNum s.heap ty k → k ≠ num)) (E : Value → Shared → Prop) :
    wpAny (model prg w) (callerA.deeper (envLaw fa L)) (exec (nth (forB (est 5)) 0) (envLaw fa L)) (StX h₀ L [] (fun _ f m' _ => f = .next ∧ m' nDone = some (.bool b) ∧ ∀ y, y ≠ nDone → m' y = m y) s) E s := by
  obtain ⟨px, cp, pos, e⟩ : ∃ px cp pos, nth (forB (est 5)) 0 = .Assign [.Name nDone px] (.Compare (cmpL (nth (forB (est 5)) 0)) [.In] [cmpR (nth (forB (est 5)) 0)] cp) pos := ⟨_, _, _, by with_unfolding_all rfl⟩
  obtain ⟨oT, gT, dTc⟩ := cT
  obtain ⟨g1, u1, u2, u3, g2⟩ := nis
  have i0 : Old h₀ L [] s.heap (L+1+1+1+1+1+1) := old_of F gT (by omega) (by simp)
  rw [e]
  refine wpAny_Assign_Name (hs := by with_unfolding_all rfl) (wpAny_Compare1 (wpAny_mono (lift_x F i0 fun x ox a b c _ => e5_l X T Bl F (news_c F g1 ln.1 (news_c F g2 ln.2 (news_1 a b c))) node) (fun v s₁ h₁ => ?_) fun _ _ e => e))
  obtain ⟨m₁, lk₁, F₁, K₁, hP⟩ := h₁
  obtain ⟨hm, rfl⟩ := hP _ i0
  obtain rfl : m₁ = m := funext hm
  have k1 : ∀ (b : Nat) o, b ≠ L → s.heap.get? b = some o → s₁.heap.get? b = some o := fun b o n e => K₁ b o n (by simp) e
  have gT₁ := k1 _ _ (by omega) gT
  obtain ⟨oB, gB, hB, lB⟩ := dT
  have gB₁ := k1 _ _ (by omega) gB
  have i1 : Old h₀ L [] s₁.heap (L+1+1+1+1+1+1) := old_of F₁ gT₁ (by omega) (by simp)
  refine wpAny_mono (lift_x F₁ i1 fun x ox a b c _ => e5_r X T Bl F₁ (news_c F₁ gT₁ (by omega) (news_c F₁ gB₁ (by omega) (news_1 a b c))) dTc hB lB hk) (fun v s₂ h₂ => ?_) fun _ _ e => e
  obtain ⟨m₂, lk₂, F₂, K₂, hP₂⟩ := h₂
  obtain ⟨hm₂, V, rfl, hV⟩ := hP₂ _ i1
  obtain rfl : m₂ = m₁ := funext hm₂
  have k2 : ∀ (b : Nat) o, b ≠ L → s.heap.get? b = some o → s₂.heap.get? b = some o := fun b o n e => K₂ b o n (by simp) (k1 b o n e)
  have gB₂ := k2 _ _ (by omega) gB
  have N₂ : News h₀ L s₂.heap [(TB, oB)] := news_c F₂ gB₂ (by omega) News.nil
  obtain ⟨ep, hat⟩ := (kda_dict N₂ (.head _) hB).dictAt
  let ev : Value → Bool := fun y => @decide (∃ ty : Nat, y = .ref ty ∧ TupNum s.heap ty num) (Classical.propDecidable _)
  have ev_t : ∀ y, (∃ ty : Nat, y = Value.ref ty ∧ TupNum s.heap ty num) → ev y = true := fun y h => @decide_eq_true _ (Classical.propDecidable _) h
  have ev_f : ∀ y, ¬ (∃ ty : Nat, y = Value.ref ty ∧ TupNum s.heap ty num) → ev y = false := fun y h => @decide_eq_false _ (Classical.propDecidable _) h
  have ev_o : ∀ y, ev y = true → ∃ ty : Nat, y = Value.ref ty ∧ TupNum s.heap ty num := fun y h => @of_decide_eq_true _ (Classical.propDecidable _) h
  refine in_values (knd := strKind prg w) rfl hV hat ev (fun y hy s₃ k3 => ?_) fun h' tk k3 => ?_
  · obtain ⟨ty, k, rfl, hty, hn⟩ := V5 y hy
    have hev : ev (.ref ty) = (k == num) := by
      by_cases q : k = num
      · subst q
        rw [beq_self_eq_true]
        exact ev_t _ ⟨ty, rfl, hn⟩
      · rw [show (k == num) = false from by simpa using q]
        refine ev_f _ fun ⟨ty', e', hn'⟩ => q ?_
        cases e'
        obtain ⟨a1, a2, a3, a4⟩ := hn
        obtain ⟨b1, b2, b3, b4⟩ := hn'
        rw [a4] at b4
        have h := congrArg (fun o : Option Obj => o.map (·.data)) b4
        simp at h
        exact h.1.2.1
    rw [hev]
    exact eq_nums (hn.up fun o e => k3 _ _ (k2 _ _ hty e)) (ht.up fun o e => k3 _ _ (k2 _ _ htL e)) (by first | exact Nat.le_of_ble_eq_true rfl | decide +kernel)
  · have hany : (kV.map (·.2)).any ev = b := by
      rcases hb with ⟨rfl, hm⟩ | ⟨rfl, hm⟩
      · exact List.any_eq_true.mpr ⟨_, hm, ev_t _ ⟨tp, rfl, ht⟩⟩
      · refine List.any_eq_false.mpr fun y hy hh => ?_
        obtain ⟨ty, rfl, hn⟩ := ev_o _ hh
        exact hm ty num hy hn rfl
    rw [hany]
    have F₃ : Fr h₀ L h' m₂ := F₂.keeps k3
    refine wpAny_storeName_local rfl F₃.ns (fun h₄ hn₄ hs₄ => ?_) rfl
    have F₄ := F₃.set hn₄ hs₄
    refine ⟨_, (lk₁.trans lk₂).trans ⟨h₄, _, rfl⟩, F₄, fun b o n _ e => hs₄.extBut b o n (k3 _ _ (k2 _ _ n e)), fun _ _ => ⟨rfl, if_pos rfl, fun y hy => if_neg hy⟩⟩
theorem est5_loop (F : Fr h₀ L s.heap m) {es : List Nd} {xs ys zs : Array Value} {cN cO cL : Nat} {kV : List (Str × Value)} {bs : Nat → Bool}
    (nN : News h₀ L s.heap [(NM, W.listOf xs cN)]) (nO : News h₀ L s.heap [(NO, W.listOf ys cO)]) (nL : News h₀ L s.heap [(LB, W.listOf zs cL)])
    (zx : xs.size = es.length) (zy : ys.size = es.length) (zz : zs.size = es.length)
    (hx : ∀ (i : Nat) (e : Nd), es[i]? = some e → (∃ t, xs[i]? = some (Value.str e.nm t)) ∧ ys[i]? = some (Value.ref e.n) ∧ ∃ t, zs[i]? = some (Value.str e.lab t))
    (nodes : ∀ (i : Nat) (e : Nd), es[i]? = some e → NIs w s.heap e.n e.d e.tp (if bs i then e.key else e.lab) ∧ TupNum s.heap e.tp e.num ∧ L < e.tp ∧ L < e.n ∧ L < e.d ∧
      ((bs i = true ∧ (Value.ref e.tp) ∈ kV.map (·.2)) ∨ (bs i = false ∧ ∀ (ty : Nat) (k : Int), (Value.ref ty) ∈ kV.map (·.2) → TupNum s.heap ty k → k ≠ e.num)))
    (V5 : ∀ y ∈ kV.map (·.2), ∃ (ty : Nat) (k : Int), y = .ref ty ∧ L < ty ∧ TupNum s.heap ty k)
    (cT : CIs s.heap (L+1+1+1+1+1+1) (.ref TB)) (dT : DIs w s.heap TB kV) (lT : L+1+1+1+1+1+1 < TB) (hk : kV.length ≤ 1000)
    (l0 : m (Str.ofString "names") = some (.ref NM)) (l1 : m (Str.ofString "nodes") = some (.ref NO)) (l2 : m (Str.ofString "labels") = some (.ref LB)) (E : Value → Shared → Prop) :
    wpAny (model prg w) (callerA.deeper (envLaw fa L)) (exec (est 5) (envLaw fa L)) (StX h₀ L [] (fun _ f m' _ => f = .next ∧ ∀ y, y ≠ nName ∧ y ≠ nNode ∧ y ≠ nLabel ∧ y ≠ nDone → m' y = m y) s) E s := by
  obtain ⟨elts, x1, tp, pos, e, eT⟩ : ∃ elts x1 tp pos, est 5 = .For (.Tuple elts x1 tp) (forI (est 5)) (forB (est 5)) [] pos ∧ forT (est 5) = .Tuple elts x1 tp := ⟨_, _, _, _, by with_unfolding_all rfl, by with_unfolding_all rfl⟩
  have eB : forB (est 5) = [nth (forB (est 5)) 0, nth (forB (est 5)) 1] := by with_unfolding_all rfl
  obtain ⟨oT, gT, dTc⟩ := cT
  have i0 : Old h₀ L [] s.heap (L+1+1+1+1+1+1) := old_of F gT (by omega) (by simp)
  rw [e]
  refine wpAny_For (hs := by intro _; with_unfolding_all rfl) (wpAny_mono (lift_x F i0 fun x ox a b c _ => ezip5 X T Bl F (news_cons nN (news_cons nO (news_cons nL (news_1 a b c)))) l0 l1 l2) (fun v s₁ h₁ => ?_) fun _ _ e => e)
  obtain ⟨m₁, lk₁, F₁, K₁, hP⟩ := h₁
  obtain ⟨hm, I, rfl, zst, _⟩ := hP _ i0
  obtain rfl : m₁ = m := funext hm
  have lI : ∀ x, Old h₀ L [] s.heap x → x < I := fun x hx => by
    obtain ⟨_, I', q, _, hlt⟩ := hP x hx
    have q' : I + 5 = I' + 5 := Value.ref.inj q
    omega
  have oldN : ∀ {a : Nat} {o : Obj}, News h₀ L s.heap [(a, o)] → Old h₀ L [] s.heap a := fun N => ⟨⟨_, (N _ (.head _)).1⟩, (N _ (.head _)).2.2, (N _ (.head _)).2.1, by simp⟩
  have oldG : ∀ {a : Nat} {o : Obj}, s.heap.get? a = some o → L < a → a < I := fun g l => lI _ (old_of F g l (by simp))
  have k1 : ∀ (b : Nat) o, b ≠ L → s.heap.get? b = some o → s₁.heap.get? b = some o := fun b o n e => K₁ b o n (by simp) e
  have bc : L+1+1+1+1+1+1 < I := lI _ i0
  refine wpAny_pyIter_zip zst.1 ?_
  refine for_zip (L := L) (D := []) (J := fun _ m' _ => ∀ y, y ≠ nName ∧ y ≠ nNode ∧ y ≠ nLabel ∧ y ≠ nDone → m' y = m₁ y)
    rfl zst F₁ (by omega) (lI _ (oldN nN)) (lI _ (oldN nO)) (lI _ (oldN nL)) ⟨(nN _ (.head _)).2.1, by simp⟩ ⟨(nO _ (.head _)).2.1, by simp⟩ ⟨(nL _ (.head _)).2.1, by simp⟩ (fun d hd => by simp at hd) (by omega) (by omega)
    (fun i m h h' j k => j) (fun y _ => rfl) ?_ ?_
  · intro i x y v TT s₂ m₂ hxi hyi hvi lk₂ F₂ K₂ j3 tri hTT E'
    obtain ⟨ed, hed⟩ : ∃ ed, es[i]? = some ed := by
      have : i < xs.size := (Array.getElem?_eq_some_iff.mp hxi).1
      exact ⟨es[i]'(by omega), List.getElem?_eq_getElem _⟩
    obtain ⟨⟨tx, e1⟩, e2, tz, e3⟩ := hx i ed hed
    rw [hxi] at e1; cases e1
    rw [hyi] at e2; cases e2
    rw [hvi] at e3; cases e3
    obtain ⟨⟨g1, u1, u2, u3, g2⟩, tn, ltp, ln1, ln2, hb⟩ := nodes i ed hed
    have k2 : ∀ (b : Nat) o, L < b → s.heap.get? b = some o → s₂.heap.get? b = some o := fun b o l e => K₂ b o (oldG e l) (by omega) (by simp) (k1 b o (by omega) e)
    have gT₂ := k2 _ _ (by omega) gT
    have iA : Old h₀ L [] s₂.heap (L+1+1+1+1+1+1) := old_of F₂ gT₂ (by omega) (by simp)
    rw [← eT]
    refine wpAny_mono (lift_x F₂ iA fun x ox a b c _ => e5_asg X T Bl F₂ (news_c F₂ tri (by omega) (news_1 a b c))) (fun _ s₃ h₃ => ?_) fun _ _ e => e
    obtain ⟨m₃, lk₃, F₃, K₃, hP₃⟩ := h₃
    obtain ⟨⟨tx', q1⟩, q2, ⟨tz', q3⟩, q4⟩ := hP₃ _ iA
    have k3 : ∀ (b : Nat) o, L < b → s.heap.get? b = some o → s₃.heap.get? b = some o := fun b o l e => K₃ b o (by show b ≠ L; omega) (by simp) (k2 b o l e)
    have gT₃ := k3 _ _ (by omega) gT
    have iB : Old h₀ L [] s₃.heap (L+1+1+1+1+1+1) := old_of F₃ gT₃ (by omega) (by simp)
    rw [eB]
    have st0 := e5_done (fa := fa) X T Bl F₃ (num := ed.num) (b := bs i) (kV := kV) q2 (⟨k3 _ _ ln1 g1, u1, u2, u3, k3 _ _ ln2 g2⟩ : NIs w s₃.heap ed.n ed.d ed.tp (if bs i then ed.key else ed.lab)) ⟨ln1, ln2⟩ ⟨oT, gT₃, dTc⟩ (dis_up dT fun o e => k3 _ _ (by omega) e) lT hk
      (fun y hy => by
        obtain ⟨ty, k, a1, a2, a3⟩ := V5 y hy
        exact ⟨ty, k, a1, by omega, a3.up fun o e => k3 _ _ a2 e⟩) (tn.up fun o e => k3 _ _ ltp e) (by omega)
      (by
        rcases hb with hb | ⟨b1, b2⟩
        · exact .inl hb
        · refine .inr ⟨b1, fun ty k hm hn => ?_⟩
          obtain ⟨ty', k', a1, a2, a3⟩ := V5 _ hm
          cases a1
          have a4 : TupNum s₃.heap ty k' := a3.up fun o e => k3 _ _ a2 e
          have : k = k' := by
            obtain ⟨c1, c2, c3, c4⟩ := hn
            obtain ⟨d1, d2, d3, d4⟩ := a4
            rw [c4] at d4
            have h := congrArg (fun o : Option Obj => o.map (·.data)) d4
            simp at h
            exact h.1.2.1
          rw [this]
          exact b2 ty k' hm a3)
    refine seq (st0 _) iB (fun _ _ _ _ h => h.1) fun s₄ m₄ lk₄ F₄ K₄ hP₄ => ?_
    obtain ⟨_, r1, r2⟩ := hP₄ _ iB
    have k4 : ∀ (b : Nat) o, L < b → s.heap.get? b = some o → s₄.heap.get? b = some o := fun b o l e => K₄ b o (by show b ≠ L; omega) (by simp) (k3 b o l e)
    have gT₄ := k4 _ _ (by omega) gT
    have iC : Old h₀ L [] s₄.heap (L+1+1+1+1+1+1) := old_of F₄ gT₄ (by omega) (by simp)
    have f0 := (r2 nName (by decide +kernel)).trans q1
    have f1 := (r2 nNode (by decide +kernel)).trans q2
    have f2 := (r2 nLabel (by decide +kernel)).trans q3
    have NN : ∀ x ox, s₄.heap.get? x = some ox → h₀.get? x = none → x ≠ L → News h₀ L s₄.heap [(ed.n, instObj 170 ed.d), (ed.d, nD w u1 u2 u3 ed.tp (if bs i then ed.key else ed.lab)), (x, ox)] := fun x ox a b c => news_c F₄ (k4 _ _ ln1 g1) ln1 (news_c F₄ (k4 _ _ ln2 g2) ln2 (news_1 a b c))
    have fin : ∀ (s₅ : Shared) (m₅ : Str → Option Value), Like s₄ s₅ → Fr h₀ L s₅.heap m₅ → Keeps L [] s₄.heap s₅.heap → (∀ y, m₅ y = m₄ y) → (Flow.next = Flow.next ∧ ∃ m₄, Like s₂ s₅ ∧ Fr h₀ L s₅.heap m₄ ∧ Keeps L [] s₂.heap s₅.heap ∧ ∀ y, y ≠ nName ∧ y ≠ nNode ∧ y ≠ nLabel ∧ y ≠ nDone → m₄ y = m₁ y) :=
      fun s₅ m₅ a b c d => ⟨rfl, m₅, (lk₃.trans lk₄).trans a, b, (K₃.t2 K₄).t2 c, fun y hy => (d y).trans ((r2 y hy.2.2.2).trans ((q4 y ⟨hy.1, hy.2.1, hy.2.2.1⟩).trans (j3 y hy)))⟩
    cases hbi : bs i with
    | false =>
      rw [hbi] at NN r1
      refine last (lift_x F₄ iC fun x ox a b c _ => e5_f X T Bl F₄ (NN x ox a b c) f0 f1 f2 r1) iC (fun _ _ _ _ h => h.1) fun s₅ m₅ a b c d => fin s₅ m₅ a b c (d _ iC).2
    | true =>
      rw [hbi] at NN r1
      by_cases hl : ed.lab = Str.ofString ""
      · have ek : ed.key = ed.nm := if_pos hl
        simp only [if_true, ek] at NN
        refine last (lift_x F₄ iC fun x ox a b c _ => e5_te X T Bl F₄ (NN x ox a b c) (by simpa using hl) f0 f1 f2 r1) iC (fun _ _ _ _ h => h.1) fun s₅ m₅ a b c d => fin s₅ m₅ a b c (d _ iC).2
      · have ek : ed.key = ed.lab := if_neg hl
        simp only [if_true, ek] at NN
        refine last (lift_x F₄ iC fun x ox a b c _ => e5_tl X T Bl F₄ (NN x ox a b c) (by simpa using hl) f0 f1 f2 r1) iC (fun _ _ _ _ h => h.1) fun s₅ m₅ a b c d => fin s₅ m₅ a b c (d _ iC).2
  · intro s' m' lk' F' kp j3
    refine ⟨m', lk₁.trans lk', F', fun b o n hd e => ?_, fun _ _ => ⟨rfl, j3⟩⟩
    cases q : h₀.get? b with
    | some o' =>
      have := F.keep b o' q
      rw [e] at this; cases this
      exact F'.keep b o q
    | none => exact kp b o (lI b ⟨⟨o, e⟩, q, n, by simp⟩) n hd (k1 b o n e)
end
end Mine
namespace Mine
open PyProof.Rows.LCg (lst NsObj ns_obj)
section
variable {K : Type} [DecidableEq K]
theorem val_none_iff {kvs : List (K × Value)} {k : K} : valueAt kvs k = none ↔ k ∉ kvs.map (·.1) := by
  induction kvs with
  | nil => simp [valueAt]
  | cons p r ih =>
    obtain ⟨a, b⟩ := p
    by_cases h : a = k
    · subst h; simp [valueAt]
    · have h' : ¬ k = a := fun e => h e.symm
      simp only [valueAt, List.find?_cons, h, decide_false, List.map_cons, List.mem_cons, h', false_or] at ih ⊢
      exact ih
theorem val_par {ka kb : List (K × Value)} (h : ka.map (·.1) = kb.map (·.1)) {k : K} : valueAt ka k = none ↔ valueAt kb k = none := by
  rw [val_none_iff, val_none_iff, h]
theorem val_some_par {ka kb : List (K × Value)} (h : ka.map (·.1) = kb.map (·.1)) {k : K} {v : Value} (hv : valueAt kb k = some v) : ∃ u, valueAt ka k = some u := by
  cases q : valueAt ka k with
  | none => rw [(val_par h).mp q] at hv; cases hv
  | some u => exact ⟨u, rfl⟩
theorem get_par {ka kb : List (K × Value)} (h : ka.map (·.1) = kb.map (·.1)) {i : Nat} {k : K} {v : Value} (hv : ka[i]? = some (k, v)) : ∃ u, kb[i]? = some (k, u) := by
  have h1 : (kb.map (·.1))[i]? = some k := by rw [← h, List.getElem?_map, hv]; rfl
  rw [List.getElem?_map] at h1
  obtain ⟨p, hp, rfl⟩ := Option.map_eq_some_iff.mp h1
  exact ⟨p.2, hp⟩
end
theorem dis_nodup {w : World} {h : Heap} {d : Nat} {kvs : List (Str × Value)} (x : DIs w h d kvs) : (kvs.map (·.1)).Nodup := by
  obtain ⟨o, _, ⟨_, _, _, _, _, _, hn⟩, _⟩ := x; exact hn
theorem dis_at {w : World} {h : Heap} {d : Nat} {kvs : List (Str × Value)} (x : DIs w h d kvs) : ∃ ep, h.DictAt (strKind prg w) d kvs ep := by
  obtain ⟨o, g, ⟨es, ep, r1, r2, r3⟩, _⟩ := x; exact ⟨ep, o, es, g, r1, r2, r3⟩
section
variable {w : World} {s : Shared} {h₀ : Heap} {fa L B DB MS P : Nat} {m mg mb : Str → Option Value} {loose : List Str} {mean : ExcName → Option Value}
    (X : (hd.heap_39 w.params).In h₀) (T : Top topProg loose mean mg mb h₀) (Bl : Below callerA h₀ [] h₀)
abbrev nOne : Str := Str.ofString "one"
abbrev nBuilder : Str := Str.ofString "builder"
abbrev nPlain : Str := Str.ofString "plain"
/-- what the two tables hold, seen from the frame at L -/
def TabsH (w : World) (L : Nat) (h : Heap) (kM kP : List (Str × Value)) (tt tv : Str → List (Str × Value)) : Prop :=
  ∀ mod u v, valueAt kM mod = some u → valueAt kP mod = some v → ∃ TM PT : Nat, u = .ref TM ∧ v = .ref PT ∧ L < TM ∧ L < PT ∧ DIs w h TM (tt mod) ∧ DIs w h PT (tv mod) ∧ (tt mod).map (·.1) = (tv mod).map (·.1) ∧ (tt mod).length ≤ 1000 ∧
    ∀ nm a b, valueAt (tt mod) nm = some a → valueAt (tv mod) nm = some b → ∃ nd d tp : Nat, ∃ lab, a = .ref nd ∧ b = .ref tp ∧ L < nd ∧ L < d ∧ NIs w h nd d tp lab
/-- the j-th item of the list of lists -/
def G6 (kP : List (Str × Value)) (tv : Str → List (Str × Value)) (j : Nat) (y : Value) (lo : Nat) (h : Heap) : Prop :=
  ∃ (D : Nat) (mod : Str) (v : Value), y = .ref D ∧ lo ≤ D ∧ kP[j]? = some (mod, v) ∧ PairsAt (tv mod) D h
def Res6 (h₀ : Heap) (L : Nat) (m : Str → Option Value) (kP : List (Str × Value)) (tv : Str → List (Str × Value)) (s : Shared) (v : Value) (s' : Shared) : Prop :=
  ∃ (D : Nat) (ys : List Value), v = .ref D ∧ Like s s' ∧ Fr h₀ L s'.heap m ∧ Keeps L [] s.heap s'.heap ∧ L < D ∧ s'.heap.get? D = some (lst ys) ∧ ys.length = kP.length ∧ ∀ (j : Nat) y, ys[j]? = some y → ∃ lo, D < lo ∧ G6 kP tv j y lo s'.heap
theorem g6_up {kP : List (Str × Value)} {tv : Str → List (Str × Value)} : GUp (G6 kP tv) := fun i y lo h h' ⟨D, mod, v, a, b, c, d⟩ k => ⟨D, mod, v, a, b, c, d.up fun b' o l e => k b' o (by omega) e⟩
include X T Bl
theorem t6_left (F : Fr h₀ L s.heap m) {c : Int} {kM kP : List (Str × Value)} {tt tv : Str → List (Str × Value)}
    (cB : CIs s.heap (L+1+1) (.ref B)) (cP : CIs s.heap (L+1+1+1) (.ref P)) (gB : s.heap.get? B = some (instObj 121 DB)) (bd : BIs w s.heap DB MS c) (dM : DIs w s.heap MS kM) (dP : DIs w s.heap P kP)
    (lB : L < B ∧ L < DB ∧ L < MS ∧ L < P) (keys : kM.map (·.1) = kP.map (·.1)) (hk : kP.length ≤ 1000) (tabs : TabsH w L s.heap kM kP tt tv) (E : Value → Shared → Prop) :
    wpAny (model prg w) (callerA.deeper (envLaw fa L)) (eval t6L (envLaw fa L)) (Res6 h₀ L m kP tv s) E s := by
  obtain ⟨px, pos, e1⟩ : ∃ px pos, t6L = .ListComp (lcE t6L) [⟨.Name nOne px, lcI t6L, [], 0⟩] (lcS t6L) pos := ⟨_, _, by with_unfolding_all rfl⟩
  obtain ⟨px2, pos2, e2⟩ : ∃ px pos, lcE t6L = .ListComp (lcE (lcE t6L)) [⟨.Name nName px, lcI (lcE t6L), [], 0⟩] (lcS (lcE t6L)) pos := ⟨_, _, by with_unfolding_all rfl⟩
  obtain ⟨oP, gP, dcP⟩ := cP
  obtain ⟨oB, gcB, dcB⟩ := cB
  obtain ⟨q1, q2, q3, ct, tN, gDB⟩ := bd
  have i0 : Old h₀ L [] s.heap (L+1+1+1) := old_of F gP (by omega) (by simp)
  rw [e1]
  refine comp_cell (knd := strKind prg w) (h₀ := h₀) (L := L) (m := m) (cl := [(nBuilder, L+1+1)]) (hs := by intro _; with_unfolding_all rfl) (by with_unfolding_all rfl) (by with_unfolding_all rfl) (by intro _; with_unfolding_all rfl) (by intro _; with_unfolding_all rfl) (by decide +kernel) (by intro _ _; with_unfolding_all rfl)
    (wpAny_mono (lift_x F i0 fun x ox a b c _ => t6_li X T Bl F (news_c F gP (by omega) (news_1 a b c)) dcP) (fun v s₁ h₁ => ?_) fun _ _ e => e)
  obtain ⟨m₁, lk₁, F₁, K₁, hP⟩ := h₁
  obtain ⟨rfl, hm⟩ := hP _ i0
  obtain rfl : m₁ = m := funext hm
  have k1 : ∀ (b : Nat) o, b ≠ L → s.heap.get? b = some o → s₁.heap.get? b = some o := fun b o n e => K₁ b o n (by simp) e
  have dP₁ : DIs w s₁.heap P kP := dis_up dP fun o e => k1 _ _ (by omega) e
  obtain ⟨ep, hat⟩ := dis_at dP₁
  have loP : (P == sysModules) = false := by obtain ⟨_, _, _, h⟩ := dP; exact h
  have ndP := dis_nodup dP
  refine ⟨P, kP, ep, G6 kP tv, rfl, rfl, loP, hat, (by show P ≠ L; omega), F₁, (by rw [sizeLine_eq]; omega), g6_up, ?_, ?_⟩
  · intro j mod xv v C s₂ hj hkv hlk F₂ hCL hC0 at₂ hCge K₂ E'
    obtain ⟨t, rfl⟩ := Value.isStrOf_shape hkv
    obtain ⟨oc, gc, dc⟩ := at₂
    have hLs : L < s₁.heap.objs.size := F₁.ns.lt
    have hv : valueAt kP mod = some xv := valueAt_of_get ndP hj
    obtain ⟨u, hu⟩ := val_some_par keys hv
    obtain ⟨TM, PT, rfl, rfl, lTM, lPT, dT, dV, kk, len, ents⟩ := tabs mod u xv hu hv
    have k2 : ∀ (b : Nat) o, b ≠ L → s.heap.get? b = some o → s₂.heap.get? b = some o := fun b o n e => K₂ b o n (by simp) (k1 b o n e)
    obtain ⟨oMS, gMS, hMS, lMS⟩ := dM
    have gc' : s₂.heap.get? (C+1) = some oc := gc
    have NB : ∀ {s' : Shared}, Fr h₀ L s'.heap m₁ → (∀ (b : Nat) o, b ≠ L → s.heap.get? b = some o → s'.heap.get? b = some o) → ∀ r, News h₀ L s'.heap r → News h₀ L s'.heap ((L+1+1, oB) :: (B, instObj 121 DB) :: (DB, bD w q1 q2 q3 (.int c ct) tN MS) :: (MS, oMS) :: r) :=
      fun F' k r N => news_c F' (k _ _ (by omega) gcB) (by omega) (news_c F' (k _ _ (by omega) gB) (by omega) (news_c F' (k _ _ (by omega) gDB) (by omega) (news_c F' (k _ _ (by omega) gMS) (by omega) N)))
    have i2 : Old h₀ L [] s₂.heap (L+1+1) := old_of F₂ (k2 _ _ (by omega) gcB) (by omega) (by simp)
    rw [e2]
    refine comp_local (knd := strKind prg w) (h₀ := h₀) (L := L) (m := m₁) (cl := [(nOne, C+1), (nBuilder, L+1+1)]) (hs := by intro _; with_unfolding_all rfl) (by with_unfolding_all rfl) (by decide +kernel) (by with_unfolding_all rfl) (by decide +kernel) (by decide +kernel)
      (wpAny_mono (lift_x F₂ i2 fun x ox a b c _ => t6_it X T Bl F₂ (news_c F₂ gc' (by omega) (NB F₂ k2 _ (news_1 a b c))) dcB hMS lMS hu dc) (fun v s₃ h₃ => ?_) fun _ _ e => e)
    obtain ⟨m₃, lk₃, F₃, K₃, hP₃⟩ := h₃
    obtain ⟨rfl, hm₃⟩ := hP₃ _ i2
    obtain rfl : m₃ = m₁ := funext hm₃
    have k3 : ∀ (b : Nat) o, b ≠ L → s.heap.get? b = some o → s₃.heap.get? b = some o := fun b o n e => K₃ b o n (by simp) (k2 b o n e)
    have gc₃ : s₃.heap.get? (C+1) = some oc := K₃ _ _ (by show C+1 ≠ L; omega) (by simp) gc'
    have hC₃ : C + 1 < s₃.heap.objs.size := ltn gc₃
    have dT₃ : DIs w s₃.heap TM (tt mod) := dis_up dT fun o e => k3 _ _ (by omega) e
    obtain ⟨ep₃, hat₃⟩ := dis_at dT₃
    have loT : (TM == sysModules) = false := by obtain ⟨_, _, _, h⟩ := dT; exact h
    have ndT := dis_nodup dT
    have ndV := dis_nodup dV
    obtain ⟨oTM, gTM, hTM, _⟩ := dT
    refine ⟨TM, tt mod, ep₃, fun l y lo h => ∃ (T n : Nat) (nm : Str) (t : Tok) (b : Value), y = .ref T ∧ lo ≤ T ∧ (tv mod)[l]? = some (nm, b) ∧ h.get? T = some ({ cls := .type "tuple", data := .seq #[.str nm t, b] n } : Obj), rfl, rfl, loT, hat₃, (by show TM ≠ L; omega), F₃, (by rw [sizeLine_eq]; omega), ?_, ?_, ?_⟩
    · intro i y lo h h' ⟨T', n, nm, t, b, a1, a2, a3, a4⟩ k
      exact ⟨T', n, nm, t, b, a1, a2, a3, k _ _ a2 a4⟩
    · intro l nm a v C2 s₄ hl hkv₄ hlk₄ F₄ hC2L hC20 at₄ hC2ge K₄ E₄
      obtain ⟨t₄, rfl⟩ := Value.isStrOf_shape hkv₄
      obtain ⟨m₂, hns, hm₂⟩ := at₄
      obtain ⟨oC2, gC2, hC2⟩ := ns_obj hns
      obtain ⟨b, hb⟩ := get_par kk hl
      obtain ⟨nd, d, tp, lab, rfl, rfl, lnd, ld, gnd, u1, u2, u3, gd⟩ := ents nm a b (valueAt_of_get ndT hl) (valueAt_of_get ndV hb)
      have k4 : ∀ (b : Nat) o, b ≠ L → s.heap.get? b = some o → s₄.heap.get? b = some o := fun b o n e => K₄ b o n (by simp) (k3 b o n e)
      have gc₄ : s₄.heap.get? (C+1) = some oc := K₄ _ _ (by show C+1 ≠ L; omega) (by simp) gc₃
      have i4 : Old h₀ L [] s₄.heap (L+1+1) := old_of F₄ (k4 _ _ (by omega) gcB) (by omega) (by simp)
      refine wpAny_mono (lift_x F₄ i4 fun x ox a b c _ => t6_el X T Bl F₄ (news_c F₄ gC2 (by omega) (news_c F₄ gc₄ (by omega) (NB F₄ k4 _ (news_c F₄ (k4 _ _ (by omega) gTM) (by omega) (news_c F₄ (k4 _ _ (by omega) gnd) lnd (news_c F₄ (k4 _ _ (by omega) gd) ld (news_1 a b c))))))) dcB hMS lMS hu dc hC2 hm₂ hTM loT (valueAt_of_get ndT hl)) (fun v s₅ h₅ => ?_) fun _ _ e => e
      obtain ⟨m₅, ⟨h', tk, rfl⟩, F₅, K₅, hP₅⟩ := h₅
      obtain ⟨hm₅, T', n, rfl, gT', l1, l2, _⟩ := hP₅ _ i4
      obtain rfl : m₅ = m₃ := funext hm₅
      exact ⟨h', tk, rfl, F₅, K₅, C2 + 1, Nat.le_refl _, T', n, nm, t₄, _, rfl, l1, hb, gT'⟩
    · intro D h' tk ys F' K' hD gD hl hG
      obtain ⟨h₃', tk₃, rfl⟩ := lk₃
      refine ⟨h', tk, rfl, F', K₃.t2 K', D, by show C + 2 ≤ D; omega, D, mod, _, rfl, Nat.le_refl _, hj, ys, _, gD, ?_, fun l y hy => ?_⟩
      · have := congrArg List.length kk
        simp only [List.length_map] at this
        omega
      · obtain ⟨lo, hlo, T', n, nm, t, b, a1, a2, a3, a4⟩ := hG l y hy
        exact ⟨T', n, nm, t, b, a1, by omega, a3, a4⟩
  · intro D h' tk ys F' K' hD gD hl hG
    have hLs : L < s₁.heap.objs.size := F₁.ns.lt
    exact ⟨D, ys, rfl, lk₁.trans ⟨h', tk, rfl⟩, F', K₁.t2 K', by omega, gD, hl, hG⟩
theorem t6_right (F : Fr h₀ L s.heap m) {kM kP : List (Str × Value)} {tt tv : Str → List (Str × Value)}
    (cP : CIs s.heap (L+1+1+1) (.ref P)) (dP : DIs w s.heap P kP)
    (lB : L < P) (keys : kM.map (·.1) = kP.map (·.1)) (hk : kP.length ≤ 1000) (tabs : TabsH w L s.heap kM kP tt tv) (E : Value → Shared → Prop) :
    wpAny (model prg w) (callerA.deeper (envLaw fa L)) (eval t6R (envLaw fa L)) (Res6 h₀ L m kP tv s) E s := by
  obtain ⟨px, pos, e1⟩ : ∃ px pos, t6R = .ListComp (lcE t6R) [⟨.Name nOne px, lcI t6R, [], 0⟩] (lcS t6R) pos := ⟨_, _, by with_unfolding_all rfl⟩
  obtain ⟨oP, gP, dcP⟩ := cP
  have i0 : Old h₀ L [] s.heap (L+1+1+1) := old_of F gP (by omega) (by simp)
  rw [e1]
  refine comp_local (knd := strKind prg w) (h₀ := h₀) (L := L) (m := m) (cl := [(nPlain, L+1+1+1)]) (hs := by intro _; with_unfolding_all rfl) (by with_unfolding_all rfl) (by decide +kernel) (by with_unfolding_all rfl) (by decide +kernel) (by decide +kernel)
    (wpAny_mono (lift_x F i0 fun x ox a b c _ => t6_ri X T Bl F (news_c F gP (by omega) (news_1 a b c)) dcP) (fun v s₁ h₁ => ?_) fun _ _ e => e)
  obtain ⟨m₁, lk₁, F₁, K₁, hP⟩ := h₁
  obtain ⟨rfl, hm⟩ := hP _ i0
  obtain rfl : m₁ = m := funext hm
  have k1 : ∀ (b : Nat) o, b ≠ L → s.heap.get? b = some o → s₁.heap.get? b = some o := fun b o n e => K₁ b o n (by simp) e
  have dP₁ : DIs w s₁.heap P kP := dis_up dP fun o e => k1 _ _ (by omega) e
  obtain ⟨ep, hat⟩ := dis_at dP₁
  have loP : (P == sysModules) = false := by obtain ⟨_, _, _, h⟩ := dP; exact h
  have ndP := dis_nodup dP
  refine ⟨P, kP, ep, G6 kP tv, rfl, rfl, loP, hat, (by show P ≠ L; omega), F₁, (by rw [sizeLine_eq]; omega), g6_up, ?_, ?_⟩
  · intro j mod xv v C s₂ hj hkv hlk F₂ hCL hC0 at₂ hCge K₂ E'
    obtain ⟨t, rfl⟩ := Value.isStrOf_shape hkv
    obtain ⟨m₂, hns, hm₂⟩ := at₂
    obtain ⟨oC, gC, hC⟩ := ns_obj hns
    have hLs : L < s₁.heap.objs.size := F₁.ns.lt
    have hv : valueAt kP mod = some xv := valueAt_of_get ndP hj
    obtain ⟨u, hu⟩ := val_some_par keys hv
    obtain ⟨TM, PT, rfl, rfl, lTM, lPT, dT, dV, kk, len, ents⟩ := tabs mod u xv hu hv
    have k2 : ∀ (b : Nat) o, b ≠ L → s.heap.get? b = some o → s₂.heap.get? b = some o := fun b o n e => K₂ b o n (by simp) (k1 b o n e)
    obtain ⟨oPT, gPT, hPT, lP⟩ := dP
    obtain ⟨oV, gV, hV, lV⟩ := dV
    have hlen : (tv mod).length ≤ 1000 := by
      have := congrArg List.length kk
      simp only [List.length_map] at this
      omega
    have i2 : Old h₀ L [] s₂.heap (L+1+1+1) := old_of F₂ (k2 _ _ (by omega) gP) (by omega) (by simp)
    refine wpAny_mono (lift_x F₂ i2 fun x ox a b c _ => t6_r X T Bl F₂ (news_c F₂ gC (by omega) (news_c F₂ (k2 _ _ (by omega) gP) (by omega) (news_c F₂ (k2 _ _ (by omega) gPT) (by omega) (news_c F₂ (k2 _ _ (by omega) gV) (by omega) (news_1 a b c))))) hC hm₂ dcP hPT lP hk hv hV lV hlen) (fun v s₃ h₃ => ?_) fun _ _ e => e
    obtain ⟨m₃, ⟨h', tk, rfl⟩, F₃, K₃, hP₃⟩ := h₃
    obtain ⟨hm₃, D, rfl, l1, _, pa⟩ := hP₃ _ i2
    obtain rfl : m₃ = m₁ := funext hm₃
    exact ⟨h', tk, rfl, F₃, K₃, C + 1, Nat.le_refl _, D, mod, _, rfl, l1, hj, pa⟩
  · intro D h' tk ys F' K' hD gD hl hG
    have hLs : L < s₁.heap.objs.size := F₁.ns.lt
    exact ⟨D, ys, rfl, lk₁.trans ⟨h', tk, rfl⟩, F', K₁.t2 K', by omega, gD, hl, hG⟩
end
end Mine
namespace Mine
open PySem.SeqAt
open PyProof.Rows.LCg (lst)
theorem eq_pairs {A : Around} {s : Shared} {D D' : Nat} {kvs : List (Str × Value)} (p : PairsAt kvs D s.heap) (p' : PairsAt kvs D' s.heap) (hu : A.units < cLine) (hu1 : A.in1.units < cLine) : EqAt A s (.ref D) (.ref D') true := by
  obtain ⟨ys, c, g, l, f⟩ := p
  obtain ⟨ys', c', g', l', f'⟩ := p'
  by_cases hD : D = D'
  · subst hD; exact EqAt.same _
  have hz : ys.toArray.size = ys'.toArray.size := by simp [l, l']
  have h := RcAt.lists (A := A) (s := s) (e := fun _ => true) ⟨_, g, rfl, _, rfl⟩ ⟨_, g', rfl, _, rfl⟩ hz hu (fun j h1 h2 => by
    have a1 : j < ys.length := by simpa using h1
    have a2 : j < ys'.length := by simpa using h2
    obtain ⟨T, n, k, t, v, e1, _, e2, e3⟩ := f j _ (List.getElem?_eq_getElem a1)
    obtain ⟨T', n', k', t', v', e1', _, e2', e3'⟩ := f' j _ (List.getElem?_eq_getElem a2)
    rw [e2] at e2'; cases e2'
    simp only [List.getElem_toArray, e1, e1']
    by_cases hT : T = T'
    · subst hT; exact EqAt.same _
    have h := RcAt.tuples (A := A.in1) (s := s) (l := T) (b := T') (e := fun _ => true) ⟨_, e3, rfl, _, rfl⟩ ⟨_, e3', rfl, _, rfl⟩ hu1 (fun i h1 h2 => by
      have h1' : i < 2 := h1
      have hi : i = 0 ∨ i = 1 := by omega
      rcases hi with rfl | rfl
      · have := EqAt.str_str (A := A.in1.in1) (s := s) k t k t'
        rw [beq_self_eq_true] at this
        exact this
      · exact EqAt.same v)
    exact EqAt.of_refs hT h)
  rw [show (List.range ys.toArray.size).all (fun _ => true) = true from List.all_eq_true.mpr fun _ _ => rfl] at h
  exact EqAt.of_refs hD h
theorem TabsH.up {w : World} {L : Nat} {h h' : Heap} {kM kP : List (Str × Value)} {tt tv : Str → List (Str × Value)} (x : TabsH w L h kM kP tt tv) (k : ∀ (b : Nat) o, b ≠ L → h.get? b = some o → h'.get? b = some o) : TabsH w L h' kM kP tt tv := fun mod u v hu hv => by
  obtain ⟨TM, PT, a1, a2, l1, l2, d1, d2, kk, len, ents⟩ := x mod u v hu hv
  refine ⟨TM, PT, a1, a2, l1, l2, dis_up d1 fun o e => k _ _ (by omega) e, dis_up d2 fun o e => k _ _ (by omega) e, kk, len, fun nm a b ha hb => ?_⟩
  obtain ⟨nd, d, tp, lab, b1, b2, m1, m2, ni⟩ := ents nm a b ha hb
  exact ⟨nd, d, tp, lab, b1, b2, m1, m2, nis_up ni (fun o e => k _ _ (by omega) e) fun o e => k _ _ (by omega) e⟩
section
variable {w : World} {s : Shared} {h₀ : Heap} {fa L B DB MS P : Nat} {m mg mb : Str → Option Value} {loose : List Str} {mean : ExcName → Option Value}
    (X : (hd.heap_39 w.params).In h₀) (T : Top topProg loose mean mg mb h₀) (Bl : Below callerA h₀ [] h₀)
include X T Bl
theorem st6 (F : Fr h₀ L s.heap m) {c : Int} {kM kP : List (Str × Value)} {tt tv : Str → List (Str × Value)}
    (cB : CIs s.heap (L+1+1) (.ref B)) (cP : CIs s.heap (L+1+1+1) (.ref P)) (gB : s.heap.get? B = some (instObj 121 DB)) (bd : BIs w s.heap DB MS c) (dM : DIs w s.heap MS kM) (dP : DIs w s.heap P kP)
    (lB : L < B ∧ L < DB ∧ L < MS ∧ L < P) (keys : kM.map (·.1) = kP.map (·.1)) (hk : kP.length ≤ 1000) (tabs : TabsH w L s.heap kM kP tt tv) (E : Value → Shared → Prop) :
    wpAny (model prg w) (callerA.deeper (envLaw fa L)) (exec (tst 6) (envLaw fa L)) (StX h₀ L [] (fun _ f m' _ => f = .next ∧ ∀ y, m' y = m y) s) E s := by
  obtain ⟨cp, bo, pos, e⟩ : ∃ cp bo pos, tst 6 = .If (.Compare t6L [.NotEq] [t6R] cp) bo [] pos := ⟨_, _, _, by with_unfolding_all rfl⟩
  rw [e]
  refine wpAny_If (wpAny_isTrue_Compare1 (wpAny_mono (t6_left X T Bl F cB cP gB bd dM dP lB keys hk tabs _) (fun v s₁ h₁ => ?_) fun _ _ e => e))
  obtain ⟨D₁, ys₁, rfl, lk₁, F₁, K₁, lD₁, g₁, z₁, f₁⟩ := h₁
  have k1 : ∀ (b : Nat) o, b ≠ L → s.heap.get? b = some o → s₁.heap.get? b = some o := fun b o n e => K₁ b o n (by simp) e
  refine wpAny_mono (t6_right X T Bl F₁ (cis_up' cP fun o e => k1 _ _ (by omega) e) (dis_up dP fun o e => k1 _ _ (by omega) e) lB.2.2.2 keys hk (tabs.up k1) _) (fun v s₂ h₂ => ?_) fun _ _ e => e
  obtain ⟨D₂, ys₂, rfl, lk₂, F₂, K₂, lD₂, g₂, z₂, f₂⟩ := h₂
  have g₁' : s₂.heap.get? D₁ = some (lst ys₁) := K₂ _ _ (by show D₁ ≠ L; omega) (by simp) g₁
  have hz : ys₁.toArray.size = ys₂.toArray.size := by simp [z₁, z₂]
  have h := RcNeAt.lists (e := fun _ => true) (A := callerA.deeper (envLaw fa L)) (s := s₂) (l := D₁) (b := D₂) ⟨_, g₁', rfl, _, rfl⟩ ⟨_, g₂, rfl, _, rfl⟩ hz (by first | exact Nat.le_of_ble_eq_true rfl | decide +kernel) (fun j h1 h2 => by
    have a1 : j < ys₁.length := by simpa using h1
    have a2 : j < ys₂.length := by simpa using h2
    obtain ⟨lo, hlo, D, mod, v, e1, e2, e3, p⟩ := f₁ j _ (List.getElem?_eq_getElem a1)
    obtain ⟨lo', hlo', D', mod', v', e1', e2', e3', p'⟩ := f₂ j _ (List.getElem?_eq_getElem a2)
    rw [e3] at e3'; cases e3'
    simp only [List.getElem_toArray, e1, e1']
    exact eq_pairs (p.up fun b o l e => K₂ b o (by show b ≠ L; omega) (by simp) e) p' (by first | exact Nat.le_of_ble_eq_true rfl | decide +kernel) (by first | exact Nat.le_of_ble_eq_true rfl | decide +kernel))
  rw [show (List.range ys₁.toArray.size).all (fun _ => true) = true from List.all_eq_true.mpr fun _ _ => rfl] at h
  refine h prg w _ _ (wpAny_truthy_bool ?_)
  simp only [Bool.not_true, Bool.false_eq_true, if_false]
  exact wpAny_execs_nil ⟨m, lk₁.trans lk₂, F₂, K₁.t2 K₂, fun _ _ => ⟨rfl, fun _ => rfl⟩⟩
end
end Mine
namespace Mine
/-- what the asking reads -/
structure E7 (w : World) (L B DB MS P : Nat) (c : Int) (kM kP : List (Str × Value)) (tt tv : Str → List (Str × Value)) (h : Heap) : Prop where
  cB : CIs h (L+1+1) (.ref B)
  cP : CIs h (L+1+1+1) (.ref P)
  gB : h.get? B = some (instObj 121 DB)
  bd : BIs w h DB MS c
  dM : DIs w h MS kM
  dP : DIs w h P kP
  tabs : TabsH w (L+1+1+1+1+1+1) h kM kP tt tv
structure S7 (L B DB MS P : Nat) (kM kP : List (Str × Value)) : Prop where
  lt : L+1+1+1+1+1+1 < DB ∧ DB < B ∧ B < MS ∧ MS < P
  keys : kM.map (·.1) = kP.map (·.1)
  len : kP.length ≤ 1000
theorem TabsH.up' {w : World} {U : Nat} {h h' : Heap} {kM kP : List (Str × Value)} {tt tv : Str → List (Str × Value)} (x : TabsH w U h kM kP tt tv) (k : ∀ (b : Nat) o, U < b → h.get? b = some o → h'.get? b = some o) : TabsH w U h' kM kP tt tv := fun mod u v hu hv => by
  obtain ⟨TM, PT, a1, a2, l1, l2, d1, d2, kk, len, ents⟩ := x mod u v hu hv
  refine ⟨TM, PT, a1, a2, l1, l2, dis_up d1 fun o e => k _ _ l1 e, dis_up d2 fun o e => k _ _ l2 e, kk, len, fun nm a b ha hb => ?_⟩
  obtain ⟨nd, d, tp, lab, b1, b2, m1, m2, ni⟩ := ents nm a b ha hb
  exact ⟨nd, d, tp, lab, b1, b2, m1, m2, nis_up ni (fun o e => k _ _ m1 e) fun o e => k _ _ m2 e⟩
theorem TabsH.low {w : World} {L U : Nat} {h : Heap} {kM kP : List (Str × Value)} {tt tv : Str → List (Str × Value)} (x : TabsH w U h kM kP tt tv) (hU : L ≤ U) : TabsH w L h kM kP tt tv := fun mod u v hu hv => by
  obtain ⟨TM, PT, a1, a2, l1, l2, d1, d2, kk, len, ents⟩ := x mod u v hu hv
  refine ⟨TM, PT, a1, a2, by omega, by omega, d1, d2, kk, len, fun nm a b ha hb => ?_⟩
  obtain ⟨nd, d, tp, lab, b1, b2, m1, m2, ni⟩ := ents nm a b ha hb
  exact ⟨nd, d, tp, lab, b1, b2, by omega, by omega, ni⟩
theorem E7.up {w : World} {L B DB MS P : Nat} {c : Int} {kM kP : List (Str × Value)} {tt tv : Str → List (Str × Value)} {h h' : Heap} (e : E7 w L B DB MS P c kM kP tt tv h) (S : S7 L B DB MS P kM kP) (k : ∀ (b : Nat) o, b ≠ L → b ≠ L+1+1+1+1+1+1 → h.get? b = some o → h'.get? b = some o) : E7 w L B DB MS P c kM kP tt tv h' := by
  have := S.lt
  exact ⟨cis_up' e.cB fun o g => k _ _ (by omega) (by omega) g, cis_up' e.cP fun o g => k _ _ (by omega) (by omega) g, k _ _ (by omega) (by omega) e.gB, bis_up e.bd fun o g => k _ _ (by omega) (by omega) g, dis_up e.dM fun o g => k _ _ (by omega) (by omega) g, dis_up e.dP fun o g => k _ _ (by omega) (by omega) g,
    e.tabs.up' fun b o l g => k _ _ (by omega) (by omega) g⟩
abbrev nNames : Str := Str.ofString "names"
abbrev nModule : Str := Str.ofString "module"
abbrev nFound : Str := Str.ofString "found"
abbrev nAnswer : Str := Str.ofString "answer"
section
variable {w : World} {s : Shared} {h₀ : Heap} {fa L B DB MS P NM : Nat} {m mg mb : Str → Option Value} {loose : List Str} {mean : ExcName → Option Value} {mod nm nm2 : Str} {t1 t3 t4 : Tok} {cN : Nat}
    {c : Int} {kM kP : List (Str × Value)} {tt tv : Str → List (Str × Value)}
    (X : (hd.heap_39 w.params).In h₀) (T : Top topProg loose mean mg mb h₀) (Bl : Below callerA h₀ [] h₀)
include X T Bl
theorem inner1 (F : Fr h₀ L s.heap m) (S : S7 L B DB MS P kM kP) (e : E7 w L B DB MS P c kM kP tt tv s.heap) (hmod : ((mod.length : Int) != 0) = true ∧ mod.length ≤ 1000) (hnm : nm.length ≤ 1000)
    (gN : s.heap.get? NM = some (W.listOf #[.str nm t4] cN)) (lN : L < NM) (l0 : m nNames = some (.ref NM)) (l1 : m nModule = some (.str mod t1))
    (cT : ∃ TB : Nat, CIs s.heap (L+1+1+1+1+1+1) (.ref TB)) (pT : ∀ PT, valueAt kP mod = some (.ref PT) → CIs s.heap (L+1+1+1+1+1+1) (.ref PT)) (E : Value → Shared → Prop) :
    wpAny (model prg w) (callerA.deeper (envLaw fa L)) (execs (forB (t7b 1)) (envLaw fa L)) (StX h₀ L [] (fun _ f m' _ => f = .next ∧ ∀ y, y ≠ nFound ∧ y ≠ nAnswer → m' y = m y) s) E s := by
  have lt := S.lt
  obtain ⟨oB, gcB, dcB⟩ := e.cB
  obtain ⟨oP, gcP, dcP⟩ := e.cP
  obtain ⟨q1, q2, q3, ct, tN, gDB⟩ := e.bd
  obtain ⟨oMS, gMS, hMS, lMS⟩ := e.dM
  obtain ⟨oPT, gPT, hPT, lPT⟩ := e.dP
  have i0 : Old h₀ L [] s.heap (L+1+1) := old_of F gcB (by omega) (by simp)
  have eB : forB (t7b 1) = [t7c 0, t7c 1] := by with_unfolding_all rfl
  have N0 : ∀ r, News h₀ L s.heap r → News h₀ L s.heap ((L+1+1, oB) :: (NM, W.listOf #[.str nm t4] cN) :: (B, instObj 121 DB) :: (DB, bD w q1 q2 q3 (.int c ct) tN MS) :: (MS, oMS) :: r) := fun r N => news_c F gcB (by omega) (news_c F gN lN (news_c F e.gB (by omega) (news_c F gDB (by omega) (news_c F gMS (by omega) N))))
  have fin : ∀ (s₁ s₂ : Shared) (m₁ m₂ : Str → Option Value), Like s s₁ → Keeps L [] s.heap s₁.heap → (∀ y, y ≠ nAnswer ∧ y ≠ nFound → m₁ y = m y) → Like s₁ s₂ → Fr h₀ L s₂.heap m₂ → Keeps L [] s₁.heap s₂.heap → (∀ y, m₂ y = m₁ y) → StX h₀ L [] (fun _ (f : Flow) m' _ => f = .next ∧ ∀ y, y ≠ nFound ∧ y ≠ nAnswer → m' y = m y) s Flow.next s₂ :=
    fun s₁ s₂ m₁ m₂ a b c d e f g => ⟨m₂, a.trans d, e, b.t2 f, fun _ _ => ⟨rfl, fun y hy => (g y).trans (c y ⟨hy.2, hy.1⟩)⟩⟩
  rw [eB]
  cases v1 : valueAt kP mod with
  | none =>
    have u1 : valueAt kM mod = none := (val_par S.keys).mpr v1
    obtain ⟨TB, oT, gT, dcT⟩ := cT
    refine seq (lift_x F i0 fun x ox a b c _ => c7_no1 X T Bl F (N0 _ (news_1 a b c)) dcB (hookR_of (m0 := .head _) fun s' m' y oy F' N' a b c => imp1_nomod X T Bl F' (news_cons (news_of N' (.tail _ (.tail _ (.head _)))) (news_cons (news_of N' (.tail _ (.tail _ (.tail _ (.head _))))) (news_cons (news_of N' (.tail _ (.tail _ (.tail _ (.tail _ (.head _)))))) (news_1 a b c)))) hMS lMS hmod.1 hmod.2 hnm u1) l0 l1) i0 (fun _ _ _ _ h => h.1) fun s₁ m₁ lk₁ F₁ K₁ hP₁ => ?_
    obtain ⟨_, p2, t, ha⟩ := hP₁ _ i0
    have p2 : ∀ y, y ≠ nAnswer ∧ y ≠ nFound → m₁ y = m y := fun y hy => p2 y hy.1
    have k1 : ∀ (b : Nat) o, b ≠ L → s.heap.get? b = some o → s₁.heap.get? b = some o := fun b o n e => K₁ b o n (by simp) e
    have i1 : Old h₀ L [] s₁.heap (L+1+1) := old_of F₁ (k1 _ _ (by omega) gcB) (by omega) (by simp)
    have f0 := (p2 nNames (by decide +kernel)).trans l0
    have f1 := (p2 nModule (by decide +kernel)).trans l1
    refine last (lift_x F₁ i1 fun x ox a b c _ => d7_no X T Bl F₁ (news_c F₁ (k1 _ _ (by omega) gcP) (by omega) (news_c F₁ (k1 _ _ (by omega) gT) (by omega) (news_c F₁ (k1 _ _ (by omega) gN) lN (news_c F₁ (k1 _ _ (by omega) gPT) (by omega) (news_1 a b c))))) dcP dcT hPT lPT S.len v1 f0 f1 ha) i1 (fun _ _ _ _ h => h.1) fun s₂ m₂ a b c d => fin s₁ s₂ m₁ m₂ lk₁ K₁ p2 a b c (d _ i1).2
  | some pv =>
    obtain ⟨uv, u1⟩ := val_some_par S.keys v1
    obtain ⟨TM, PT, rfl, rfl, lTM', lPT', dT, dV, kk, len, ents⟩ := e.tabs mod uv pv u1 v1
    obtain ⟨oTM, gTM, hTM, lTM⟩ := dT
    obtain ⟨oV, gV, hV, lV⟩ := dV
    obtain ⟨oT, gT, dcT⟩ := pT PT v1
    cases w2 : valueAt (tt mod) nm with
    | none =>
      have x2 := (val_par kk).mp w2
      refine seq (lift_x F i0 fun x ox a b c _ => c7_ref1 X T Bl F (N0 _ (news_c F gTM (by omega) (news_1 a b c))) dcB (hookR_of (m0 := .head _) fun s' m' y oy F' N' a b c => imp1_nosym X T Bl F' (news_cons (news_of N' (.tail _ (.tail _ (.head _)))) (news_cons (news_of N' (.tail _ (.tail _ (.tail _ (.head _))))) (news_cons (news_of N' (.tail _ (.tail _ (.tail _ (.tail _ (.head _)))))) (news_cons (news_of N' (.tail _ (.tail _ (.tail _ (.tail _ (.tail _ (.head _))))))) (news_1 a b c))))) hMS lMS hTM lTM hmod.1 hmod.2 hnm u1 w2) l0 l1) i0 (fun _ _ _ _ h => h.1) fun s₁ m₁ lk₁ F₁ K₁ hP₁ => ?_
      obtain ⟨_, p2, t, ha⟩ := hP₁ _ i0
      have p2 : ∀ y, y ≠ nAnswer ∧ y ≠ nFound → m₁ y = m y := fun y hy => p2 y hy.1
      have k1 : ∀ (b : Nat) o, b ≠ L → s.heap.get? b = some o → s₁.heap.get? b = some o := fun b o n e => K₁ b o n (by simp) e
      have i1 : Old h₀ L [] s₁.heap (L+1+1) := old_of F₁ (k1 _ _ (by omega) gcB) (by omega) (by simp)
      have f0 := (p2 nNames (by decide +kernel)).trans l0
      have f1 := (p2 nModule (by decide +kernel)).trans l1
      refine last (lift_x F₁ i1 fun x ox a b c _ => d7_n X T Bl F₁ (news_c F₁ (k1 _ _ (by omega) gcP) (by omega) (news_c F₁ (k1 _ _ (by omega) gT) (by omega) (news_c F₁ (k1 _ _ (by omega) gN) lN (news_c F₁ (k1 _ _ (by omega) gPT) (by omega) (news_c F₁ (k1 _ _ (by omega) gV) (by omega) (news_1 a b c)))))) dcP dcT hPT lPT S.len v1 hV lV x2 f0 f1 ha) i1 (fun _ _ _ _ h => h.1) fun s₂ m₂ a b c d => fin s₁ s₂ m₁ m₂ lk₁ K₁ p2 a b c (d _ i1).2
    | some a2 =>
      obtain ⟨b2, x2⟩ := val_some_par kk.symm w2
      obtain ⟨nd, d, tp, lab, rfl, rfl, lnd, ld, gnd, u1', u2', u3', gd⟩ := ents nm a2 b2 w2 x2
      have lnd : L < nd := by omega
      have ld : L < d := by omega
      refine seq (lift_x F i0 fun x ox a b c _ => c7_ok1 X T Bl F (N0 _ (news_c F gTM (by omega) (news_c F gnd lnd (news_c F gd ld (news_1 a b c))))) dcB (hookI_of (fa := fa) (C := 0) (m0 := .head _) (by omega) fun s' m' y oy F' N' a b c => imp1_ok X T Bl F' (news_cons (news_of N' (.tail _ (.tail _ (.head _)))) (news_cons (news_of N' (.tail _ (.tail _ (.tail _ (.head _))))) (news_cons (news_of N' (.tail _ (.tail _ (.tail _ (.tail _ (.head _)))))) (news_cons (news_of N' (.tail _ (.tail _ (.tail _ (.tail _ (.tail _ (.head _))))))) (news_1 a b c))))) hMS lMS hTM lTM hmod.1 hmod.2 hnm u1 w2) l0 l1) i0 (fun _ _ _ _ h => h.1) fun s₁ m₁ lk₁ F₁ K₁ hP₁ => ?_
      obtain ⟨_, p2, AN, cA, ha, nA⟩ := hP₁ _ i0
      have k1 : ∀ (b : Nat) o, b ≠ L → s.heap.get? b = some o → s₁.heap.get? b = some o := fun b o n e => K₁ b o n (by simp) e
      have i1 : Old h₀ L [] s₁.heap (L+1+1) := old_of F₁ (k1 _ _ (by omega) gcB) (by omega) (by simp)
      have f0 := (p2 nNames (by decide +kernel)).trans l0
      have f1 := (p2 nModule (by decide +kernel)).trans l1
      refine last (lift_x F₁ i1 fun x ox a b c _ => d7_s X T Bl F₁ (news_c F₁ (k1 _ _ (by omega) gcP) (by omega) (news_c F₁ (k1 _ _ (by omega) gT) (by omega) (news_c F₁ (k1 _ _ (by omega) gN) lN (news_c F₁ (k1 _ _ (by omega) gPT) (by omega) (news_c F₁ (k1 _ _ (by omega) gV) (by omega) (news_cons nA (news_1 a b c))))))) dcP dcT hPT lPT S.len v1 hV lV x2 f0 f1 ha) i1 (fun _ _ _ _ h => h.1) fun s₂ m₂ a b c d => fin s₁ s₂ m₁ m₂ lk₁ K₁ p2 a b c (d _ i1).2
theorem inner2 (F : Fr h₀ L s.heap m) (S : S7 L B DB MS P kM kP) (e : E7 w L B DB MS P c kM kP tt tv s.heap) (hmod : ((mod.length : Int) != 0) = true ∧ mod.length ≤ 1000) (hnm : nm.length ≤ 1000 ∧ nm2.length ≤ 1000)
    (gN : s.heap.get? NM = some (W.listOf #[.str nm t4, .str nm2 t3] cN)) (lN : L < NM) (l0 : m nNames = some (.ref NM)) (l1 : m nModule = some (.str mod t1))
    (cT : ∃ TB : Nat, CIs s.heap (L+1+1+1+1+1+1) (.ref TB)) (pT : ∀ PT, valueAt kP mod = some (.ref PT) → CIs s.heap (L+1+1+1+1+1+1) (.ref PT)) (E : Value → Shared → Prop) :
    wpAny (model prg w) (callerA.deeper (envLaw fa L)) (execs (forB (t7b 1)) (envLaw fa L)) (StX h₀ L [] (fun _ f m' _ => f = .next ∧ ∀ y, y ≠ nFound ∧ y ≠ nAnswer → m' y = m y) s) E s := by
  have lt := S.lt
  obtain ⟨oB, gcB, dcB⟩ := e.cB
  obtain ⟨oP, gcP, dcP⟩ := e.cP
  obtain ⟨q1, q2, q3, ct, tN, gDB⟩ := e.bd
  obtain ⟨oMS, gMS, hMS, lMS⟩ := e.dM
  obtain ⟨oPT, gPT, hPT, lPT⟩ := e.dP
  have i0 : Old h₀ L [] s.heap (L+1+1) := old_of F gcB (by omega) (by simp)
  have eB : forB (t7b 1) = [t7c 0, t7c 1] := by with_unfolding_all rfl
  have N0 : ∀ r, News h₀ L s.heap r → News h₀ L s.heap ((L+1+1, oB) :: (NM, W.listOf #[.str nm t4, .str nm2 t3] cN) :: (B, instObj 121 DB) :: (DB, bD w q1 q2 q3 (.int c ct) tN MS) :: (MS, oMS) :: r) := fun r N => news_c F gcB (by omega) (news_c F gN lN (news_c F e.gB (by omega) (news_c F gDB (by omega) (news_c F gMS (by omega) N))))
  have fin : ∀ (s₁ s₂ : Shared) (m₁ m₂ : Str → Option Value), Like s s₁ → Keeps L [] s.heap s₁.heap → (∀ y, y ≠ nAnswer ∧ y ≠ nFound → m₁ y = m y) → Like s₁ s₂ → Fr h₀ L s₂.heap m₂ → Keeps L [] s₁.heap s₂.heap → (∀ y, m₂ y = m₁ y) → StX h₀ L [] (fun _ (f : Flow) m' _ => f = .next ∧ ∀ y, y ≠ nFound ∧ y ≠ nAnswer → m' y = m y) s Flow.next s₂ :=
    fun s₁ s₂ m₁ m₂ a b c d e f g => ⟨m₂, a.trans d, e, b.t2 f, fun _ _ => ⟨rfl, fun y hy => (g y).trans (c y ⟨hy.2, hy.1⟩)⟩⟩
  rw [eB]
  cases v1 : valueAt kP mod with
  | none =>
    have u1 : valueAt kM mod = none := (val_par S.keys).mpr v1
    obtain ⟨TB, oT, gT, dcT⟩ := cT
    refine seq (lift_x F i0 fun x ox a b c _ => c7_no2 X T Bl F (N0 _ (news_1 a b c)) dcB (hookR_of (m0 := .head _) fun s' m' y oy F' N' a b c => imp2_nomod X T Bl F' (news_cons (news_of N' (.tail _ (.tail _ (.head _)))) (news_cons (news_of N' (.tail _ (.tail _ (.tail _ (.head _))))) (news_cons (news_of N' (.tail _ (.tail _ (.tail _ (.tail _ (.head _)))))) (news_1 a b c)))) hMS lMS hmod.1 hmod.2 hnm.1 hnm.2 u1) l0 l1) i0 (fun _ _ _ _ h => h.1) fun s₁ m₁ lk₁ F₁ K₁ hP₁ => ?_
    obtain ⟨_, p2, t, ha⟩ := hP₁ _ i0
    have p2 : ∀ y, y ≠ nAnswer ∧ y ≠ nFound → m₁ y = m y := fun y hy => p2 y hy.1
    have k1 : ∀ (b : Nat) o, b ≠ L → s.heap.get? b = some o → s₁.heap.get? b = some o := fun b o n e => K₁ b o n (by simp) e
    have i1 : Old h₀ L [] s₁.heap (L+1+1) := old_of F₁ (k1 _ _ (by omega) gcB) (by omega) (by simp)
    have f0 := (p2 nNames (by decide +kernel)).trans l0
    have f1 := (p2 nModule (by decide +kernel)).trans l1
    refine last (lift_x F₁ i1 fun x ox a b c _ => d7_no2 X T Bl F₁ (news_c F₁ (k1 _ _ (by omega) gcP) (by omega) (news_c F₁ (k1 _ _ (by omega) gT) (by omega) (news_c F₁ (k1 _ _ (by omega) gN) lN (news_c F₁ (k1 _ _ (by omega) gPT) (by omega) (news_1 a b c))))) dcP dcT hPT lPT S.len v1 f0 f1 ha) i1 (fun _ _ _ _ h => h.1) fun s₂ m₂ a b c d => fin s₁ s₂ m₁ m₂ lk₁ K₁ p2 a b c (d _ i1).2
  | some pv =>
    obtain ⟨uv, u1⟩ := val_some_par S.keys v1
    obtain ⟨TM, PT, rfl, rfl, lTM', lPT', dT, dV, kk, len, ents⟩ := e.tabs mod uv pv u1 v1
    obtain ⟨oTM, gTM, hTM, lTM⟩ := dT
    obtain ⟨oV, gV, hV, lV⟩ := dV
    obtain ⟨oT, gT, dcT⟩ := pT PT v1
    cases w2 : valueAt (tt mod) nm with
    | none =>
      have x2 := (val_par kk).mp w2
      cases w3 : valueAt (tt mod) nm2 with
      | none =>
        have x3 := (val_par kk).mp w3
        refine seq (lift_x F i0 fun x ox a b c _ => c7_ref2 X T Bl F (N0 _ (news_c F gTM (by omega) (news_1 a b c))) dcB (hookR_of (m0 := .head _) fun s' m' y oy F' N' a b c => imp2_nosym1 X T Bl F' (news_cons (news_of N' (.tail _ (.tail _ (.head _)))) (news_cons (news_of N' (.tail _ (.tail _ (.tail _ (.head _))))) (news_cons (news_of N' (.tail _ (.tail _ (.tail _ (.tail _ (.head _)))))) (news_cons (news_of N' (.tail _ (.tail _ (.tail _ (.tail _ (.tail _ (.head _))))))) (news_1 a b c))))) hMS lMS hTM lTM hmod.1 hmod.2 hnm.1 hnm.2 u1 w2) l0 l1) i0 (fun _ _ _ _ h => h.1) fun s₁ m₁ lk₁ F₁ K₁ hP₁ => ?_
        obtain ⟨_, p2, t, ha⟩ := hP₁ _ i0
        have p2 : ∀ y, y ≠ nAnswer ∧ y ≠ nFound → m₁ y = m y := fun y hy => p2 y hy.1
        have k1 : ∀ (b : Nat) o, b ≠ L → s.heap.get? b = some o → s₁.heap.get? b = some o := fun b o n e => K₁ b o n (by simp) e
        have i1 : Old h₀ L [] s₁.heap (L+1+1) := old_of F₁ (k1 _ _ (by omega) gcB) (by omega) (by simp)
        have f0 := (p2 nNames (by decide +kernel)).trans l0
        have f1 := (p2 nModule (by decide +kernel)).trans l1
        refine last (lift_x F₁ i1 fun x ox a b c _ => d7_nn X T Bl F₁ (news_c F₁ (k1 _ _ (by omega) gcP) (by omega) (news_c F₁ (k1 _ _ (by omega) gT) (by omega) (news_c F₁ (k1 _ _ (by omega) gN) lN (news_c F₁ (k1 _ _ (by omega) gPT) (by omega) (news_c F₁ (k1 _ _ (by omega) gV) (by omega) (news_1 a b c)))))) dcP dcT hPT lPT S.len v1 hV lV x2 x3 f0 f1 ha) i1 (fun _ _ _ _ h => h.1) fun s₂ m₂ a b c d => fin s₁ s₂ m₁ m₂ lk₁ K₁ p2 a b c (d _ i1).2
      | some a3 =>
        obtain ⟨b3, x3⟩ := val_some_par kk.symm w3
        obtain ⟨nd2, d2, tp2, lab2, rfl, rfl, _⟩ := ents nm2 a3 b3 w3 x3
        refine seq (lift_x F i0 fun x ox a b c _ => c7_ref2 X T Bl F (N0 _ (news_c F gTM (by omega) (news_1 a b c))) dcB (hookR_of (m0 := .head _) fun s' m' y oy F' N' a b c => imp2_nosym1 X T Bl F' (news_cons (news_of N' (.tail _ (.tail _ (.head _)))) (news_cons (news_of N' (.tail _ (.tail _ (.tail _ (.head _))))) (news_cons (news_of N' (.tail _ (.tail _ (.tail _ (.tail _ (.head _)))))) (news_cons (news_of N' (.tail _ (.tail _ (.tail _ (.tail _ (.tail _ (.head _))))))) (news_1 a b c))))) hMS lMS hTM lTM hmod.1 hmod.2 hnm.1 hnm.2 u1 w2) l0 l1) i0 (fun _ _ _ _ h => h.1) fun s₁ m₁ lk₁ F₁ K₁ hP₁ => ?_
        obtain ⟨_, p2, t, ha⟩ := hP₁ _ i0
        have p2 : ∀ y, y ≠ nAnswer ∧ y ≠ nFound → m₁ y = m y := fun y hy => p2 y hy.1
        have k1 : ∀ (b : Nat) o, b ≠ L → s.heap.get? b = some o → s₁.heap.get? b = some o := fun b o n e => K₁ b o n (by simp) e
        have i1 : Old h₀ L [] s₁.heap (L+1+1) := old_of F₁ (k1 _ _ (by omega) gcB) (by omega) (by simp)
        have f0 := (p2 nNames (by decide +kernel)).trans l0
        have f1 := (p2 nModule (by decide +kernel)).trans l1
        refine last (lift_x F₁ i1 fun x ox a b c _ => d7_ns X T Bl F₁ (news_c F₁ (k1 _ _ (by omega) gcP) (by omega) (news_c F₁ (k1 _ _ (by omega) gT) (by omega) (news_c F₁ (k1 _ _ (by omega) gN) lN (news_c F₁ (k1 _ _ (by omega) gPT) (by omega) (news_c F₁ (k1 _ _ (by omega) gV) (by omega) (news_1 a b c)))))) dcP dcT hPT lPT S.len v1 hV lV x2 x3 f0 f1 ha) i1 (fun _ _ _ _ h => h.1) fun s₂ m₂ a b c d => fin s₁ s₂ m₁ m₂ lk₁ K₁ p2 a b c (d _ i1).2
    | some a2 =>
      obtain ⟨b2, x2⟩ := val_some_par kk.symm w2
      cases w3 : valueAt (tt mod) nm2 with
      | none =>
        have x3 := (val_par kk).mp w3
        obtain ⟨nd, d, tp, lab, rfl, rfl, _⟩ := ents nm a2 b2 w2 x2
        refine seq (lift_x F i0 fun x ox a b c _ => c7_ref2 X T Bl F (N0 _ (news_c F gTM (by omega) (news_1 a b c))) dcB (hookR_of (m0 := .head _) fun s' m' y oy F' N' a b c => imp2_nosym2 X T Bl F' (news_cons (news_of N' (.tail _ (.tail _ (.head _)))) (news_cons (news_of N' (.tail _ (.tail _ (.tail _ (.head _))))) (news_cons (news_of N' (.tail _ (.tail _ (.tail _ (.tail _ (.head _)))))) (news_cons (news_of N' (.tail _ (.tail _ (.tail _ (.tail _ (.tail _ (.head _))))))) (news_1 a b c))))) hMS lMS hTM lTM hmod.1 hmod.2 hnm.1 hnm.2 u1 w2 w3) l0 l1) i0 (fun _ _ _ _ h => h.1) fun s₁ m₁ lk₁ F₁ K₁ hP₁ => ?_
        obtain ⟨_, p2, t, ha⟩ := hP₁ _ i0
        have p2 : ∀ y, y ≠ nAnswer ∧ y ≠ nFound → m₁ y = m y := fun y hy => p2 y hy.1
        have k1 : ∀ (b : Nat) o, b ≠ L → s.heap.get? b = some o → s₁.heap.get? b = some o := fun b o n e => K₁ b o n (by simp) e
        have i1 : Old h₀ L [] s₁.heap (L+1+1) := old_of F₁ (k1 _ _ (by omega) gcB) (by omega) (by simp)
        have f0 := (p2 nNames (by decide +kernel)).trans l0
        have f1 := (p2 nModule (by decide +kernel)).trans l1
        refine last (lift_x F₁ i1 fun x ox a b c _ => d7_sn X T Bl F₁ (news_c F₁ (k1 _ _ (by omega) gcP) (by omega) (news_c F₁ (k1 _ _ (by omega) gT) (by omega) (news_c F₁ (k1 _ _ (by omega) gN) lN (news_c F₁ (k1 _ _ (by omega) gPT) (by omega) (news_c F₁ (k1 _ _ (by omega) gV) (by omega) (news_1 a b c)))))) dcP dcT hPT lPT S.len v1 hV lV x2 x3 f0 f1 ha) i1 (fun _ _ _ _ h => h.1) fun s₂ m₂ a b c d => fin s₁ s₂ m₁ m₂ lk₁ K₁ p2 a b c (d _ i1).2
      | some a3 =>
        obtain ⟨b3, x3⟩ := val_some_par kk.symm w3
        obtain ⟨nd, d, tp, lab, rfl, rfl, lnd, ld, gnd, u1', u2', u3', gd⟩ := ents nm a2 b2 w2 x2
        obtain ⟨nd2, d2, tp2, lab2, rfl, rfl, lnd2, ld2, gnd2, y1', y2', y3', gd2⟩ := ents nm2 a3 b3 w3 x3
        have lnd : L < nd := by omega
        have ld : L < d := by omega
        have lnd2 : L < nd2 := by omega
        have ld2 : L < d2 := by omega
        refine seq (lift_x F i0 fun x ox a b c _ => c7_ok2 X T Bl F (N0 _ (news_c F gTM (by omega) (news_c F gnd lnd (news_c F gd ld (news_c F gnd2 lnd2 (news_c F gd2 ld2 (news_1 a b c))))))) dcB (hookI_of (fa := fa) (C := 0) (m0 := .head _) (by omega) fun s' m' y oy F' N' a b c => imp2_ok X T Bl F' (news_cons (news_of N' (.tail _ (.tail _ (.head _)))) (news_cons (news_of N' (.tail _ (.tail _ (.tail _ (.head _))))) (news_cons (news_of N' (.tail _ (.tail _ (.tail _ (.tail _ (.head _)))))) (news_cons (news_of N' (.tail _ (.tail _ (.tail _ (.tail _ (.tail _ (.head _))))))) (news_1 a b c))))) hMS lMS hTM lTM hmod.1 hmod.2 hnm.1 hnm.2 u1 w2 w3) l0 l1) i0 (fun _ _ _ _ h => h.1) fun s₁ m₁ lk₁ F₁ K₁ hP₁ => ?_
        obtain ⟨_, p2, AN, cA, ha, nA⟩ := hP₁ _ i0
        have k1 : ∀ (b : Nat) o, b ≠ L → s.heap.get? b = some o → s₁.heap.get? b = some o := fun b o n e => K₁ b o n (by simp) e
        have i1 : Old h₀ L [] s₁.heap (L+1+1) := old_of F₁ (k1 _ _ (by omega) gcB) (by omega) (by simp)
        have f0 := (p2 nNames (by decide +kernel)).trans l0
        have f1 := (p2 nModule (by decide +kernel)).trans l1
        refine last (lift_x F₁ i1 fun x ox a b c _ => d7_ss X T Bl F₁ (news_c F₁ (k1 _ _ (by omega) gcP) (by omega) (news_c F₁ (k1 _ _ (by omega) gT) (by omega) (news_c F₁ (k1 _ _ (by omega) gN) lN (news_c F₁ (k1 _ _ (by omega) gPT) (by omega) (news_c F₁ (k1 _ _ (by omega) gV) (by omega) (news_cons nA (news_1 a b c))))))) dcP dcT hPT lPT S.len v1 hV lV x2 x3 f0 f1 ha) i1 (fun _ _ _ _ h => h.1) fun s₂ m₂ a b c d => fin s₁ s₂ m₁ m₂ lk₁ K₁ p2 a b c (d _ i1).2
end
end Mine
namespace Mine
section
variable {w : World} {s : Shared} {h₀ : Heap} {fa L B DB MS P : Nat} {m mg mb : Str → Option Value} {loose : List Str} {mean : ExcName → Option Value} {mod : Str}
    {c : Int} {kM kP : List (Str × Value)} {tt tv : Str → List (Str × Value)}
    (X : (hd.heap_39 w.params).In h₀) (T : Top topProg loose mean mg mb h₀) (Bl : Below callerA h₀ [] h₀)
include X T Bl
theorem inner_loop (F : Fr h₀ L s.heap m) (S : S7 L B DB MS P kM kP) (e : E7 w L B DB MS P c kM kP tt tv s.heap) (hmod : ((mod.length : Int) != 0) = true ∧ mod.length ≤ 1000) {t1 : Tok} (l1 : m nModule = some (.str mod t1))
    (cT : ∃ TB : Nat, CIs s.heap (L+1+1+1+1+1+1) (.ref TB)) (pT : ∀ PT, valueAt kP mod = some (.ref PT) → CIs s.heap (L+1+1+1+1+1+1) (.ref PT)) (E : Value → Shared → Prop) :
    wpAny (model prg w) (callerA.deeper (envLaw fa L)) (exec (t7b 1) (envLaw fa L)) (StX h₀ L [] (fun _ f m' _ => f = .next ∧ ∀ y, y ≠ nNames ∧ y ≠ nFound ∧ y ≠ nAnswer → m' y = m y) s) E s := by
  obtain ⟨px, pos, eq⟩ : ∃ px pos, t7b 1 = .For (.Name nNames px) (forI (t7b 1)) (forB (t7b 1)) [] pos := ⟨_, _, by with_unfolding_all rfl⟩
  have lt := S.lt
  obtain ⟨oB, gcB, dcB⟩ := e.cB
  have i0 : Old h₀ L [] s.heap (L+1+1) := old_of F gcB (by omega) (by simp)
  rw [eq]
  refine wpAny_For (hs := by intro _; with_unfolding_all rfl) (wpAny_mono (lift_x F i0 fun x ox a b c _ => c7i X T Bl F (news_1 a b c)) (fun v s₁ h₁ => ?_) fun _ _ e => e)
  obtain ⟨m₁, lk₁, F₁, K₁, hP⟩ := h₁
  obtain ⟨hm, LI, N1, N2, N3, n, n1, n2, n3, u1, u2, u3, u4, rfl, gL, g1, g2, g3, x0, x1, x2, x3⟩ := hP _ i0
  obtain rfl : m₁ = m := funext hm
  have k1 : ∀ (b : Nat) o, b ≠ L → s.heap.get? b = some o → s₁.heap.get? b = some o := fun b o n e => K₁ b o n (by simp) e
  have e1 := e.up S fun b o n _ => k1 b o n
  have cT1 : ∃ TB : Nat, CIs s₁.heap (L+1+1+1+1+1+1) (.ref TB) := cT.imp fun TB h => cis_up' h fun o g => k1 _ _ (by omega) g
  have pT1 : ∀ PT, valueAt kP mod = some (.ref PT) → CIs s₁.heap (L+1+1+1+1+1+1) (.ref PT) := fun PT h => cis_up' (pT PT h) fun o g => k1 _ _ (by omega) g
  have lt1 : ∀ {b : Nat} {o : Obj}, s₁.heap.get? b = some o → b < s₁.heap.objs.size := fun g => ltn g
  refine for_list (L := L) (D := []) (J := fun _ m' _ => ∀ y, y ≠ nNames ∧ y ≠ nFound ∧ y ≠ nAnswer → m' y = m₁ y) rfl rfl rfl rfl gL F₁ ⟨by omega, by simp⟩ (fun d hd => by simp at hd)
    (fun i m h h' j k => j) (fun y _ => rfl) ?_ (fun i m h h' j k => j) ?_
  · intro i v s₂ m₂ hv lk₂ F₂ K₂ j E'
    have kk : ∀ (b : Nat) o, b ≠ L → s₁.heap.get? b = some o → s₂.heap.get? b = some o := fun b o n e => K₂ b o (lt1 e) n (by simp) e
    have e2 := e1.up S fun b o n _ => kk b o n
    have cT2 : ∃ TB : Nat, CIs s₂.heap (L+1+1+1+1+1+1) (.ref TB) := cT1.imp fun TB h => cis_up' h fun o g => kk _ _ (by omega) g
    have pT2 : ∀ PT, valueAt kP mod = some (.ref PT) → CIs s₂.heap (L+1+1+1+1+1+1) (.ref PT) := fun PT h => cis_up' (pT1 PT h) fun o g => kk _ _ (by omega) g
    have f0 : (fun y => if y = nNames then some v else m₂ y) nNames = some v := if_pos rfl
    have f1 : (fun y => if y = nNames then some v else m₂ y) nModule = some (.str mod t1) := (if_neg (by decide +kernel)).trans ((j _ (by decide +kernel)).trans l1)
    have fin : ∀ (f : Flow) s₄, StX h₀ L [] (fun _ f m' _ => f = .next ∧ ∀ y, y ≠ nFound ∧ y ≠ nAnswer → m' y = (fun y => if y = nNames then some v else m₂ y) y) s₂ f s₄ → (f = .next ∧ ∃ m₄, Like s₂ s₄ ∧ Fr h₀ L s₄.heap m₄ ∧ Keeps L [] s₂.heap s₄.heap ∧ ∀ y, y ≠ nNames ∧ y ≠ nFound ∧ y ≠ nAnswer → m₄ y = m₁ y) := by
      intro f s₄ ⟨m₄, a, b, c, d⟩
      obtain ⟨oB, gcB, dcB⟩ := e2.cB
      obtain ⟨rfl, d2⟩ := d _ (old_of F₂ gcB (by omega) (by simp))
      exact ⟨rfl, m₄, a, b, c, fun y hy => (d2 y ⟨hy.2.1, hy.2.2⟩).trans ((if_neg hy.1).trans (j y hy))⟩
    have hi : i = 0 ∨ i = 1 ∨ i = 2 := by
      have := (Array.getElem?_eq_some_iff.mp hv).1
      have : i < 3 := this
      omega
    have s1 : (nOne).length ≤ 1000 := by decide +kernel
    have s2 : (Str.ofString "two").length ≤ 1000 := by decide +kernel
    rcases hi with rfl | rfl | rfl
    · obtain rfl : (.ref N1 : Value) = v := Option.some.inj hv
      exact wpAny_mono (inner1 X T Bl F₂ S e2 hmod s1 (kk _ _ (by omega) g1) (by omega) f0 f1 cT2 pT2 _) fin fun _ _ e => e
    · obtain rfl : (.ref N2 : Value) = v := Option.some.inj hv
      exact wpAny_mono (inner1 X T Bl F₂ S e2 hmod s2 (kk _ _ (by omega) g2) (by omega) f0 f1 cT2 pT2 _) fin fun _ _ e => e
    · obtain rfl : (.ref N3 : Value) = v := Option.some.inj hv
      exact wpAny_mono (inner2 X T Bl F₂ S e2 hmod ⟨s2, s1⟩ (kk _ _ (by omega) g3) (by omega) f0 f1 cT2 pT2 _) fin fun _ _ e => e
  · intro s' m' lk' F' kp j
    exact ⟨m', lk₁.trans lk', F', fun b o n hd e => kp b o (lt1 (k1 b o n e)) n hd (k1 b o n e), fun _ _ => ⟨rfl, j⟩⟩
theorem outer_body (F : Fr h₀ L s.heap m) (S : S7 L B DB MS P kM kP) (e : E7 w L B DB MS P c kM kP tt tv s.heap) (hmod : ((mod.length : Int) != 0) = true ∧ mod.length ≤ 1000) {t1 : Tok} (l1 : m nModule = some (.str mod t1))
    (cT : ∃ o v, s.heap.get? (L+1+1+1+1+1+1) = some o ∧ o.data = .cell v) (E : Value → Shared → Prop) :
    wpAny (model prg w) (callerA.deeper (envLaw fa L)) (execs (forB (tst 7)) (envLaw fa L)) (StX h₀ L [L+1+1+1+1+1+1] (fun _ f m' h' => f = .next ∧ (∃ o v, h'.get? (L+1+1+1+1+1+1) = some o ∧ o.data = .cell v) ∧ ∀ y, y ≠ nNames ∧ y ≠ nFound ∧ y ≠ nAnswer → m' y = m y) s) E s := by
  have eB : forB (tst 7) = [t7b 0, t7b 1] := by with_unfolding_all rfl
  have lt := S.lt
  obtain ⟨oB, gcB, dcB⟩ := e.cB
  obtain ⟨oP, gcP, dcP⟩ := e.cP
  obtain ⟨oPT, gPT, hPT, lPT⟩ := e.dP
  obtain ⟨oT, vT, gT, dT⟩ := cT
  have i0 : Old h₀ L [L+1+1+1+1+1+1] s.heap (L+1+1) := old_of F gcB (by omega) (by simp)
  have NN : ∀ x ox, s.heap.get? x = some ox → h₀.get? x = none → x ≠ L → News h₀ L s.heap [(L+1+1+1, oP), (L+1+1+1+1+1+1, oT), (P, oPT), (x, ox)] := fun x ox a b c => news_c F gcP (by omega) (news_c F gT (by omega) (news_c F gPT (by omega) (news_1 a b c)))
  have rest : ∀ (s₁ : Shared) (m₁ : Str → Option Value), Like s s₁ → Fr h₀ L s₁.heap m₁ → Keeps L [L+1+1+1+1+1+1] s.heap s₁.heap → (∀ y, m₁ y = m y) → (∃ TB : Nat, CIs s₁.heap (L+1+1+1+1+1+1) (.ref TB)) → (∀ PT, valueAt kP mod = some (.ref PT) → CIs s₁.heap (L+1+1+1+1+1+1) (.ref PT)) →
      wpAny (model prg w) (callerA.deeper (envLaw fa L)) (execs [t7b 1] (envLaw fa L)) (StX h₀ L [L+1+1+1+1+1+1] (fun _ f m' h' => f = .next ∧ (∃ o v, h'.get? (L+1+1+1+1+1+1) = some o ∧ o.data = .cell v) ∧ ∀ y, y ≠ nNames ∧ y ≠ nFound ∧ y ≠ nAnswer → m' y = m y) s) E s₁ := by
    intro s₁ m₁ lk₁ F₁ K₁ hm cT1 pT1
    have e1 := e.up S fun b o n n' g => K₁ b o n (by simpa using n') g
    obtain ⟨oB1, gcB1, dcB1⟩ := e1.cB
    have i1 : Old h₀ L [] s₁.heap (L+1+1) := old_of F₁ gcB1 (by omega) (by simp)
    refine last (inner_loop X T Bl F₁ S e1 hmod ((hm _).trans l1) cT1 pT1 _) i1 (fun _ _ _ _ h => h.1) fun s₂ m₂ lk₂ F₂ K₂ hP => ?_
    obtain ⟨_, p2⟩ := hP _ i1
    obtain ⟨TB, oc, gc, dc⟩ := cT1
    exact ⟨m₂, lk₁.trans lk₂, F₂, fun b o n hd g => K₂ b o n (by simp) (K₁ b o n hd g), fun _ _ => ⟨rfl, ⟨oc, _, K₂ _ _ (by show L+1+1+1+1+1+1 ≠ L; omega) (by simp) gc, dc⟩, fun y hy => (p2 y hy).trans (hm y)⟩⟩
  rw [eB]
  cases v1 : valueAt kP mod with
  | none =>
    refine seq (lift_x F i0 fun x ox a b c d => s7_none X T Bl F (NN x ox a b c) dcP dT hPT lPT S.len v1 (by omega) (by simpa using d) l1) i0 (fun _ _ _ _ h => h.1) fun s₁ m₁ lk₁ F₁ K₁ hP₁ => ?_
    obtain ⟨_, hm, TB, ct, _⟩ := hP₁ _ i0
    exact rest s₁ m₁ lk₁ F₁ K₁ hm ⟨TB, ct⟩ fun PT h => by rw [v1] at h; cases h
  | some pv =>
    obtain ⟨uv, u1⟩ := val_some_par S.keys v1
    obtain ⟨TM, PT, rfl, rfl, _⟩ := e.tabs mod uv pv u1 v1
    refine seq (lift_x F i0 fun x ox a b c d => s7_some X T Bl F (NN x ox a b c) dcP dT hPT lPT S.len v1 (by omega) (by simpa using d) l1) i0 (fun _ _ _ _ h => h.1) fun s₁ m₁ lk₁ F₁ K₁ hP₁ => ?_
    obtain ⟨_, hm, ct⟩ := hP₁ _ i0
    exact rest s₁ m₁ lk₁ F₁ K₁ hm ⟨PT, ct⟩ fun PT' h => by rw [v1] at h; cases h; exact ct
theorem st7 (F : Fr h₀ L s.heap m) (S : S7 L B DB MS P kM kP) (e : E7 w L B DB MS P c kM kP tt tv s.heap)
    (cT : ∃ o v, s.heap.get? (L+1+1+1+1+1+1) = some o ∧ o.data = .cell v) (E : Value → Shared → Prop) :
    wpAny (model prg w) (callerA.deeper (envLaw fa L)) (exec (tst 7) (envLaw fa L)) (StX h₀ L [L+1+1+1+1+1+1] (fun _ f m' h' => f = .next ∧ (∃ o v, h'.get? (L+1+1+1+1+1+1) = some o ∧ o.data = .cell v) ∧ ∀ y, y ≠ nModule ∧ y ≠ nNames ∧ y ≠ nFound ∧ y ≠ nAnswer → m' y = m y) s) E s := by
  obtain ⟨px, pos, eq⟩ : ∃ px pos, tst 7 = .For (.Name nModule px) (forI (tst 7)) (forB (tst 7)) [] pos := ⟨_, _, by with_unfolding_all rfl⟩
  have lt := S.lt
  obtain ⟨oB, gcB, dcB⟩ := e.cB
  have i0 : Old h₀ L [] s.heap (L+1+1) := old_of F gcB (by omega) (by simp)
  rw [eq]
  refine wpAny_For (hs := by intro _; with_unfolding_all rfl) (wpAny_mono (lift_x F i0 fun x ox a b c _ => t7i X T Bl F (news_1 a b c)) (fun v s₁ h₁ => ?_) fun _ _ e => e)
  obtain ⟨m₁, lk₁, F₁, K₁, hP⟩ := h₁
  obtain ⟨hm, LI, n, u1, u2, u3, rfl, gL, x0⟩ := hP _ i0
  obtain rfl : m₁ = m := funext hm
  obtain ⟨oT, vT, gT, dT⟩ := cT
  have xT : L+1+1+1+1+1+1 < LI := by
    obtain ⟨_, LI', _, _, _, _, q, _, l⟩ := hP _ (old_of F gT (by omega) (by simp) : Old h₀ L [] s.heap (L+1+1+1+1+1+1))
    cases q; exact l
  have k1 : ∀ (b : Nat) o, b ≠ L → s.heap.get? b = some o → s₁.heap.get? b = some o := fun b o n e => K₁ b o n (by simp) e
  have e1 := e.up S fun b o n _ => k1 b o n
  have gT1 := k1 _ _ (by omega) gT
  have lt1 : ∀ {b : Nat} {o : Obj}, s₁.heap.get? b = some o → b < s₁.heap.objs.size := fun g => ltn g
  refine for_list (L := L) (D := [L+1+1+1+1+1+1]) (J := fun _ m' h' => (∃ o v, h'.get? (L+1+1+1+1+1+1) = some o ∧ o.data = .cell v) ∧ ∀ y, y ≠ nModule ∧ y ≠ nNames ∧ y ≠ nFound ∧ y ≠ nAnswer → m' y = m₁ y) rfl rfl rfl rfl gL F₁ ⟨by omega, by simp; omega⟩ (fun d hd => by rw [List.mem_singleton.mp hd]; exact lt1 gT1)
    (fun i m h h' ⟨⟨o, v, g, d⟩, j⟩ k => ⟨⟨o, v, k _ _ (lt1 gT1) g, d⟩, j⟩) ⟨⟨oT, vT, gT1, dT⟩, fun y _ => rfl⟩ ?_ (fun i m h h' ⟨⟨o, v, g, d⟩, j⟩ k => ⟨⟨o, v, k _ _ (by omega) g, d⟩, j⟩) ?_
  · intro i v s₂ m₂ hv lk₂ F₂ K₂ ⟨ct, j⟩ E'
    have e2 := e1.up S fun b o n n' e => K₂ b o (lt1 e) n (by simpa using n') e
    obtain ⟨md, tk, hmd, rfl⟩ : ∃ md tk, (((md.length : Int) != 0) = true ∧ md.length ≤ 1000) ∧ v = .str md tk := by
      have hi : i = 0 ∨ i = 1 ∨ i = 2 := by
        have := (Array.getElem?_eq_some_iff.mp hv).1
        have : i < 3 := this
        omega
      rcases hi with rfl | rfl | rfl
      · exact ⟨_, _, by decide +kernel, (Option.some.inj hv).symm⟩
      · exact ⟨_, _, by decide +kernel, (Option.some.inj hv).symm⟩
      · exact ⟨_, _, by decide +kernel, (Option.some.inj hv).symm⟩
    refine wpAny_mono (outer_body X T Bl F₂ S e2 hmd (t1 := tk) (if_pos rfl) ct _) (fun f s₄ ⟨m₄, a, b, c, d⟩ => ?_) fun _ _ e => e
    obtain ⟨oB2, gcB2, dcB2⟩ := e2.cB
    obtain ⟨rfl, d1, d2⟩ := d _ (old_of F₂ gcB2 (by omega) (by simp))
    exact ⟨rfl, m₄, a, b, c, d1, fun y hy => (d2 y hy.2).trans ((if_neg hy.1).trans (j y hy))⟩
  · intro s' m' lk' F' kp ⟨ct, j⟩
    exact ⟨m', lk₁.trans lk', F', fun b o n hd e => kp b o (lt1 (k1 b o n e)) n hd (k1 b o n e), fun _ _ => ⟨rfl, ct, j⟩⟩
end
end Mine
namespace Mine
section
variable {K : Type} [DecidableEq K]
theorem keys_stored {ka kb : List (K × Value)} (h : ka.map (·.1) = kb.map (·.1)) (k : K) (u v : Value) : (stored ka k u).map (·.1) = (stored kb k v).map (·.1) := by
  have key : ∀ (l : List (K × Value)) (x : Value), (stored l k x).map (·.1) = if k ∈ l.map (·.1) then l.map (·.1) else l.map (·.1) ++ [k] := by
    intro l x
    unfold stored
    by_cases q : l.any (fun kv => kv.1 = k) = true
    · have hm : k ∈ l.map (·.1) := by
        obtain ⟨p, hp, e⟩ := List.any_eq_true.mp q
        exact List.mem_map.mpr ⟨p, hp, by simpa using e⟩
      rw [if_pos q, if_pos hm, List.map_map]
      refine List.map_congr_left fun p _ => ?_
      by_cases z : p.1 = k
      · simp [z]
      · simp [z]
    · have hm : ¬ k ∈ l.map (·.1) := fun hm => by
        obtain ⟨p, hp, e⟩ := List.mem_map.mp hm
        exact q (List.any_eq_true.mpr ⟨p, hp, by simpa using e⟩)
      rw [if_neg q, if_neg hm]
      simp
  rw [key, key, h]
theorem keys_without {ka kb : List (K × Value)} (h : ka.map (·.1) = kb.map (·.1)) (k : K) : (without ka k).map (·.1) = (without kb k).map (·.1) := by
  have key : ∀ l : List (K × Value), (without l k).map (·.1) = (l.map (·.1)).filter (fun x => decide (x ≠ k)) := by
    intro l
    unfold without
    rw [List.filter_map]; rfl
  rw [key, key, h]
theorem val_without {kvs : List (K × Value)} {k k' : K} {v : Value} (h : valueAt (without kvs k) k' = some v) : k' ≠ k ∧ valueAt kvs k' = some v := by
  unfold without at h
  induction kvs with
  | nil => simp [valueAt] at h
  | cons p r ih =>
    obtain ⟨a, b⟩ := p
    by_cases q : a = k
    · subst q
      rw [List.filter_cons] at h
      simp only [ne_eq, not_true_eq_false, decide_false, Bool.false_eq_true, if_false] at h
      obtain ⟨h1, h2⟩ := ih h
      refine ⟨h1, ?_⟩
      have h1' : ¬ a = k' := fun e => h1 e.symm
      simp only [valueAt, List.find?_cons, h1', decide_false] at h2 ⊢
      exact h2
    · rw [List.filter_cons] at h
      simp only [ne_eq, q, not_false_eq_true, decide_true, if_true] at h
      by_cases z : a = k'
      · subst z
        refine ⟨q, ?_⟩
        simpa [valueAt] using h
      · simp only [valueAt, List.find?_cons, z, decide_false] at h ih ⊢
        exact ih h
theorem val_stored {kvs : List (K × Value)} {k k' : K} {v u : Value} (h : valueAt (stored kvs k v) k' = some u) : (k' = k ∧ u = v) ∨ (k' ≠ k ∧ valueAt kvs k' = some u) := by
  by_cases q : k' = k
  · subst q; rw [val_self] at h; cases h; exact .inl ⟨rfl, rfl⟩
  · rw [val_ne _ _ q] at h; exact .inr ⟨q, h⟩
theorem len_par {ka kb : List (K × Value)} (h : ka.map (·.1) = kb.map (·.1)) : ka.length = kb.length := by
  have := congrArg List.length h
  simpa using this
end
/-! export -/
theorem put_par {vN vP : Nd → Value} {a b : List (Str × Value) × Bool} (hk : a.1.map (·.1) = b.1.map (·.1)) (hb : a.2 = b.2) (e : Nd) : (put vN a e).1.map (·.1) = (put vP b e).1.map (·.1) ∧ (put vN a e).2 = (put vP b e).2 := by
  have hn : (valueAt a.1 e.nm).isNone = (valueAt b.1 e.nm).isNone := by
    have := val_par hk (k := e.nm)
    cases q : valueAt a.1 e.nm <;> cases z : valueAt b.1 e.nm <;> simp_all
  unfold put
  rw [hb, hn]
  split
  · exact ⟨keys_stored hk _ _ _, rfl⟩
  · exact ⟨hk, rfl⟩
theorem puts_par {vN vP : Nd → Value} {kT kV : List (Str × Value)} {es : List Nd} (hk : kT.map (·.1) = kV.map (·.1)) : (puts vN kT es).1.map (·.1) = (puts vP kV es).1.map (·.1) ∧ (puts vN kT es).2 = (puts vP kV es).2 := by
  unfold puts
  suffices h : ∀ (es : List Nd) (a b : List (Str × Value) × Bool), a.1.map (·.1) = b.1.map (·.1) → a.2 = b.2 → (es.foldl (put vN) a).1.map (·.1) = (es.foldl (put vP) b).1.map (·.1) ∧ (es.foldl (put vN) a).2 = (es.foldl (put vP) b).2 from h es _ _ hk rfl
  intro es
  induction es with
  | nil => intro a b h1 h2; exact ⟨h1, h2⟩
  | cons e r ih => intro a b h1 h2; exact ih _ _ (put_par h1 h2 e).1 (put_par h1 h2 e).2
theorem puts_rel {vN vP : Nd → Value} {R : Str → Value → Value → Prop} {kT kV : List (Str × Value)} {es : List Nd} (hk : kT.map (·.1) = kV.map (·.1)) (h0 : ∀ nm a b, valueAt kT nm = some a → valueAt kV nm = some b → R nm a b) (he : ∀ e ∈ es, R e.key (vN e) (vP e)) :
    ∀ nm a b, valueAt (puts vN kT es).1 nm = some a → valueAt (puts vP kV es).1 nm = some b → R nm a b := by
  unfold puts
  suffices h : ∀ (es : List Nd) (a b : List (Str × Value) × Bool), a.1.map (·.1) = b.1.map (·.1) → a.2 = b.2 → (∀ nm x y, valueAt a.1 nm = some x → valueAt b.1 nm = some y → R nm x y) → (∀ e ∈ es, R e.key (vN e) (vP e)) →
      ∀ nm x y, valueAt (es.foldl (put vN) a).1 nm = some x → valueAt (es.foldl (put vP) b).1 nm = some y → R nm x y from h es _ _ hk rfl h0 he
  intro es
  induction es with
  | nil => intro a b h1 h2 h3 h4; exact h3
  | cons e r ih =>
    intro a b h1 h2 h3 h4
    refine ih _ _ (put_par h1 h2 e).1 (put_par h1 h2 e).2 (fun nm x y hx hy => ?_) fun e' he' => h4 e' (.tail _ he')
    have hn : (valueAt a.1 e.nm).isNone = (valueAt b.1 e.nm).isNone := by
      have := val_par h1 (k := e.nm)
      cases q : valueAt a.1 e.nm <;> cases z : valueAt b.1 e.nm <;> simp_all
    unfold put at hx hy
    rw [h2, hn] at hx
    by_cases q : (b.2 && (valueAt b.1 e.nm).isNone) = true
    · rw [if_pos q] at hx hy
      rcases val_stored hx with ⟨rfl, rfl⟩ | ⟨n1, hx⟩
      · rcases val_stored hy with ⟨_, rfl⟩ | ⟨n2, _⟩
        · exact h4 e (.head _)
        · exact absurd rfl n2
      · rcases val_stored hy with ⟨n2, _⟩ | ⟨_, hy⟩
        · exact absurd n2 n1
        · exact h3 nm x y hx hy
    · rw [if_neg q] at hx hy
      exact h3 nm x y hx hy
/-- after the i-th: done or not -/
def doneAt (v : Nd → Value) (kT : List (Str × Value)) (es : List Nd) (i : Nat) : Bool := (puts v kT (es.take (i + 1))).2
theorem puts_vals {v : Nd → Value} {kV : List (Str × Value)} {es : List Nd} {nm : Str} {y : Value} (h : valueAt (puts v kV es).1 nm = some y) : valueAt kV nm = some y ∨ ∃ (i : Nat) (e : Nd), es[i]? = some e ∧ doneAt v kV es i = true ∧ y = v e := by
  suffices hh : ∀ n, n ≤ es.length → ∀ nm y, valueAt (puts v kV (es.take n)).1 nm = some y → valueAt kV nm = some y ∨ ∃ (i : Nat) (e : Nd), es[i]? = some e ∧ doneAt v kV es i = true ∧ y = v e by
    exact hh es.length (Nat.le_refl _) nm y (by rw [List.take_length]; exact h)
  intro n
  induction n with
  | zero => intro _ nm y hy; exact .inl (by simpa [puts] using hy)
  | succ n ih =>
    intro hn nm y hy
    have hlt : n < es.length := hn
    have he := List.getElem?_eq_getElem hlt
    have hd : doneAt v kV es n = (put v (puts v kV (es.take n)) es[n]).2 := by unfold doneAt; rw [puts_take he]
    rw [puts_take he] at hy
    unfold put at hy hd
    by_cases q : ((puts v kV (es.take n)).2 && (valueAt (puts v kV (es.take n)).1 es[n].nm).isNone) = true
    · rw [if_pos q] at hy hd
      rcases val_stored hy with ⟨_, rfl⟩ | ⟨_, hy⟩
      · exact .inr ⟨n, _, he, hd, rfl⟩
      · exact ih (Nat.le_of_lt hlt) nm y hy
    · rw [if_neg q] at hy
      exact ih (Nat.le_of_lt hlt) nm y hy
theorem puts_mem {v : Nd → Value} {kV : List (Str × Value)} {es : List Nd} (hp : es.Pairwise fun a b => a.key ≠ b.key) {i : Nat} {e : Nd} (he : es[i]? = some e) (hd : doneAt v kV es i = true) : valueAt (puts v kV es).1 e.key = some (v e) := by
  suffices hh : ∀ n, i < n → n ≤ es.length → valueAt (puts v kV (es.take n)).1 e.key = some (v e) by
    have := hh es.length (List.getElem?_eq_some_iff.mp he).1 (Nat.le_refl _)
    rwa [List.take_length] at this
  intro n
  induction n with
  | zero => intro h; omega
  | succ n ih =>
    intro hi hn
    have hlt : n < es.length := hn
    have hen := List.getElem?_eq_getElem hlt
    rw [puts_take hen]
    by_cases q : i = n
    · subst q
      rw [he] at hen
      cases hen
      unfold doneAt at hd
      rw [puts_take he] at hd
      unfold put at hd ⊢
      by_cases z : ((puts v kV (es.take i)).2 && (valueAt (puts v kV (es.take i)).1 es[i].nm).isNone) = true
      · rw [if_pos z]
        exact val_self _ _ _
      · rw [if_neg z] at hd
        cases hd
    · have hin : i < n := by omega
      have hne : e.key ≠ es[n].key := by
        have hl := (List.getElem?_eq_some_iff.mp he).1
        have hee : es[i] = e := by rw [List.getElem?_eq_getElem hl] at he; exact Option.some.inj he
        rw [← hee]
        exact List.pairwise_iff_getElem.mp hp i n hl hlt hin
      unfold put
      split
      · rw [val_ne _ _ hne]
        exact ih hin (Nat.le_of_lt hlt)
      · exact ih hin (Nat.le_of_lt hlt)
/-! unexport -/
theorem cuts_par {kT kV : List (Str × Value)} {d : Bool} {ks : List Str} (hk : kT.map (·.1) = kV.map (·.1)) : (cuts kT d ks).1.map (·.1) = (cuts kV d ks).1.map (·.1) ∧ (cuts kT d ks).2 = (cuts kV d ks).2 := by
  unfold cuts
  suffices h : ∀ (ks : List Str) (a b : List (Str × Value) × Bool), a.1.map (·.1) = b.1.map (·.1) → a.2 = b.2 → (ks.foldl cut a).1.map (·.1) = (ks.foldl cut b).1.map (·.1) ∧ (ks.foldl cut a).2 = (ks.foldl cut b).2 from h ks _ _ hk rfl
  intro ks
  induction ks with
  | nil => intro a b h1 h2; exact ⟨h1, h2⟩
  | cons k r ih =>
    intro a b h1 h2
    have hn : (valueAt a.1 k).isSome = (valueAt b.1 k).isSome := by
      have := val_par h1 (k := k)
      cases q : valueAt a.1 k <;> cases z : valueAt b.1 k <;> simp_all
    have hc : (cut a k).1.map (·.1) = (cut b k).1.map (·.1) ∧ (cut a k).2 = (cut b k).2 := by
      unfold cut
      rw [h2, hn]
      split
      · exact ⟨keys_without h1 _, rfl⟩
      · exact ⟨h1, rfl⟩
    exact ih _ _ hc.1 hc.2
theorem cuts_val {kT : List (Str × Value)} {d : Bool} {ks : List Str} {nm : Str} {v : Value} (h : valueAt (cuts kT d ks).1 nm = some v) : valueAt kT nm = some v := by
  unfold cuts at h
  suffices hh : ∀ (ks : List Str) (a : List (Str × Value) × Bool), valueAt (ks.foldl cut a).1 nm = some v → valueAt a.1 nm = some v from hh ks _ h
  intro ks
  induction ks with
  | nil => intro a h; exact h
  | cons k r ih =>
    intro a h
    have h' := ih _ h
    unfold cut at h'
    split at h'
    · exact (val_without h').2
    · exact h'
theorem cuts_false {kT : List (Str × Value)} {ks : List Str} : cuts kT false ks = (kT, false) := by
  unfold cuts
  induction ks with
  | nil => rfl
  | cons k r ih => rw [List.foldl_cons, show cut (kT, false) k = (kT, false) by simp [cut]]; exact ih
theorem cuts_all {kT : List (Str × Value)} (hn : (kT.map (·.1)).Nodup) : cuts kT true (kT.map (·.1)) = ([], true) := by
  induction kT with
  | nil => rfl
  | cons p r ih =>
    obtain ⟨k, v⟩ := p
    rw [List.map_cons, List.nodup_cons] at hn
    have h1 : cut ((k, v) :: r, true) k = (r, true) := by
      have hw : without ((k, v) :: r) k = r := by
        unfold without
        rw [List.filter_cons]
        simp only [ne_eq, not_true_eq_false, decide_false, Bool.false_eq_true, if_false]
        exact List.filter_eq_self.mpr fun q hq => by
          have : q.1 ≠ k := fun e => hn.1 (List.mem_map.mpr ⟨q, hq, e⟩)
          simpa using this
      unfold cut
      simp [valueAt, hw]
    show cuts ((k, v) :: r) true (k :: r.map (·.1)) = _
    unfold cuts
    rw [List.foldl_cons, h1]
    exact ih hn.2
/-! labels -/
theorem lab_small : ∀ n : Fin 24, let l := Str.ofString "l" ++ Str.ofString (toString ((n.val : Nat) : Int)); l.length ≤ 1000 ∧ ((l.length : Int) != 0) = true ∧ (l != Str.ofString "") = true := by decide +kernel
theorem lab_next : ∀ n : Fin 23, Str.ofString "l" ++ Str.ofString (toString ((n.val : Nat) : Int)) ≠ Str.ofString "l" ++ Str.ofString (toString (((n.val + 1 : Nat)) : Int)) := by decide +kernel
theorem lab_ok {n : Int} (h0 : 0 ≤ n) (h1 : n < 24) : (Str.ofString "l" ++ Str.ofString (toString n)).length ≤ 1000 ∧ (((Str.ofString "l" ++ Str.ofString (toString n)).length : Int) != 0) = true ∧ Str.ofString "l" ++ Str.ofString (toString n) ≠ Str.ofString "" := by
  obtain ⟨k, rfl⟩ := Int.eq_ofNat_of_zero_le h0
  have hk : k < 24 := by omega
  have := lab_small ⟨k, hk⟩
  exact ⟨this.1, this.2.1, fun e => by have h := this.2.2; simp only at h; rw [e] at h; exact absurd h (by decide +kernel)⟩
theorem lab_two {n : Int} (h0 : 0 ≤ n) (h1 : n < 23) : Str.ofString "l" ++ Str.ofString (toString n) ≠ Str.ofString "l" ++ Str.ofString (toString (n + 1)) := by
  obtain ⟨k, rfl⟩ := Int.eq_ofNat_of_zero_le h0
  have hk : k < 23 := by omega
  have := lab_next ⟨k, hk⟩
  exact this
end Mine
namespace Mine
def Free (kM : List (Str × Value)) (y : Nat) : Prop := ∀ mod, valueAt kM mod ≠ some (.ref y)
/-- a node's object and its tuple -/
def Rel (w : World) (P U : Nat) (n : Int) (kM : List (Str × Value)) (h : Heap) (a b : Value) : Prop :=
  ∃ nd d tp : Nat, ∃ lab num, a = .ref nd ∧ b = .ref tp ∧ NIs w h nd d tp lab ∧ TupNum h tp num ∧ num < n ∧ (P < nd ∧ nd < U ∧ Free kM nd) ∧ (P < d ∧ d < U ∧ Free kM d) ∧ (P < tp ∧ tp < U ∧ Free kM tp)
/-- a module: the builder's table and the plain one -/
structure Tab (w : World) (P U : Nat) (n : Int) (kM : List (Str × Value)) (h : Heap) (TM PT : Nat) (kT kV : List (Str × Value)) : Prop where
  l1 : P < TM ∧ TM < U
  l2 : P < PT ∧ PT < U ∧ Free kM PT
  dT : DIs w h TM kT
  dV : DIs w h PT kV
  keys : kT.map (·.1) = kV.map (·.1)
  len : (kT.length : Int) ≤ n
  short : ∀ nm u, valueAt kT nm = some u → nm.length ≤ 1000
  ents : ∀ nm a b, valueAt kT nm = some a → valueAt kV nm = some b → Rel w P U n kM h a b
/-- what holds between the turns -/
structure Core (w : World) (fa L f cc B DB MS P I sc : Nat) (dc pm ct : Value) (oc : Obj) (oI : Option Obj) (U : Nat) (n c : Int) (kM kP : List (Str × Value)) (tt tv : Str → List (Str × Value)) (h : Heap) : Prop where
  lt : 183 < L ∧ L+1+1+1+1+1+1 < cc ∧ cc < f ∧ f < DB ∧ DB < B ∧ B < MS ∧ MS < P ∧ P < I ∧ I < U
  gf : h.get? f = some (drawObj fa L dc pm cc ct)
  gc : h.get? cc = some oc
  gI : ∀ o, oI = some o → h.get? I = some o
  g183 : ∃ ps, h.get? 183 = some (tabObj ps)
  cS : CIs h (L+1) (.ref sc)
  cB : CIs h (L+1+1) (.ref B)
  cP : CIs h (L+1+1+1) (.ref P)
  gB : h.get? B = some (instObj 121 DB)
  bd : BIs w h DB MS c
  dM : DIs w h MS kM
  dP : DIs w h P kP
  keys : kM.map (·.1) = kP.map (·.1)
  lenP : (kP.length : Int) ≤ n
  fI : Free kM I
  tabs : ∀ mod u v, valueAt kM mod = some u → valueAt kP mod = some v → ∃ TM PT : Nat, u = .ref TM ∧ v = .ref PT ∧ Tab w P U n kM h TM PT (tt mod) (tv mod)
  inj : ∀ mod mod' (TM : Nat), valueAt kM mod = some (.ref TM) → valueAt kM mod' = some (.ref TM) → mod = mod'
theorem Rel.up {w : World} {P U U' : Nat} {n n' : Int} {kM kM' : List (Str × Value)} {h h' : Heap} {a b : Value} (x : Rel w P U n kM h a b) (hn : n ≤ n') (hU : ∀ (y : Nat) o, h.get? y = some o → P < y → y < U → Free kM y → (h'.get? y = some o ∧ y < U' ∧ Free kM' y)) : Rel w P U' n' kM' h' a b := by
  obtain ⟨nd, d, tp, lab, num, e1, e2, ⟨g1, u1, u2, u3, g2⟩, ⟨v1, v2, v3, g3⟩, hlt, ⟨a1, a2, a3⟩, ⟨b1, b2, b3⟩, c1, c2, c3⟩ := x
  obtain ⟨r1, r2, r3⟩ := hU _ _ g1 a1 a2 a3
  obtain ⟨s1, s2, s3⟩ := hU _ _ g2 b1 b2 b3
  obtain ⟨t1, t2, t3⟩ := hU _ _ g3 c1 c2 c3
  exact ⟨nd, d, tp, lab, num, e1, e2, ⟨r1, u1, u2, u3, s1⟩, ⟨v1, v2, v3, t1⟩, by omega, ⟨a1, r2, r3⟩, ⟨b1, s2, s3⟩, c1, t2, t3⟩
theorem Tab.up {w : World} {P U U' : Nat} {n n' : Int} {kM kM' : List (Str × Value)} {h h' : Heap} {TM PT : Nat} {kT kV : List (Str × Value)} (x : Tab w P U n kM h TM PT kT kV) (hn : n ≤ n') (hT : ∀ o, h.get? TM = some o → (h'.get? TM = some o ∧ TM < U'))
    (hU : ∀ (y : Nat) o, h.get? y = some o → P < y → y < U → Free kM y → (h'.get? y = some o ∧ y < U' ∧ Free kM' y)) : Tab w P U' n' kM' h' TM PT kT kV := by
  obtain ⟨l1, ⟨l2, l3, l4⟩, ⟨oT, gT, rT⟩, ⟨oV, gV, rV⟩, k, len, sh, en⟩ := x
  obtain ⟨a1, a2, a3⟩ := hU _ _ gV l2 l3 l4
  exact ⟨⟨l1.1, (hT _ gT).2⟩, ⟨l2, a2, a3⟩, ⟨oT, (hT _ gT).1, rT⟩, ⟨oV, a1, rV⟩, k, by omega, sh, fun nm a b p q => (en nm a b p q).up hn hU⟩
section
variable {w : World} {h₀ h h' : Heap} {fa L f cc B DB MS P I sc U U' : Nat} {dc pm ct : Value} {oc : Obj} {oI : Option Obj} {n n' c : Int} {kM kP : List (Str × Value)} {tt tv : Str → List (Str × Value)} {m : Str → Option Value}
theorem Core.keep {D : List Nat} (C : Core w fa L f cc B DB MS P I sc dc pm ct oc oI U n c kM kP tt tv h) (K : Keeps L D h h') (hD : ∀ d ∈ D, d = L+1+1+1+1 ∨ d = L+1+1+1+1+1 ∨ d = L+1+1+1+1+1+1 ∨ U ≤ d) : Core w fa L f cc B DB MS P I sc dc pm ct oc oI U n c kM kP tt tv h' := by
  obtain ⟨lt, gf, gc, gI, ⟨ps, g183⟩, cS, cB, cP, gB, bd, dM, dP, keys, lenP, fI, tabs, inj⟩ := C
  have k : ∀ (b : Nat) o, b ≠ L → b ≠ L+1+1+1+1 → b ≠ L+1+1+1+1+1 → b ≠ L+1+1+1+1+1+1 → b < U → h.get? b = some o → h'.get? b = some o := fun b o h1 h2 h3 h4 h5 g => K b o h1 (fun hm => by have := hD _ hm; omega) g
  refine ⟨lt, k _ _ (by omega) (by omega) (by omega) (by omega) (by omega) gf, k _ _ (by omega) (by omega) (by omega) (by omega) (by omega) gc, fun o e => k _ _ (by omega) (by omega) (by omega) (by omega) (by omega) (gI o e), ⟨ps, k _ _ (by omega) (by omega) (by omega) (by omega) (by omega) g183⟩,
    cis_up' cS fun o g => k _ _ (by omega) (by omega) (by omega) (by omega) (by omega) g, cis_up' cB fun o g => k _ _ (by omega) (by omega) (by omega) (by omega) (by omega) g, cis_up' cP fun o g => k _ _ (by omega) (by omega) (by omega) (by omega) (by omega) g,
    k _ _ (by omega) (by omega) (by omega) (by omega) (by omega) gB, bis_up bd fun o g => k _ _ (by omega) (by omega) (by omega) (by omega) (by omega) g, dis_up dM fun o g => k _ _ (by omega) (by omega) (by omega) (by omega) (by omega) g, dis_up dP fun o g => k _ _ (by omega) (by omega) (by omega) (by omega) (by omega) g,
    keys, lenP, fI, fun mod u v hu hv => ?_, inj⟩
  obtain ⟨TM, PT, e1, e2, tb⟩ := tabs mod u v hu hv
  have := tb.l1
  exact ⟨TM, PT, e1, e2, tb.up (Int.le_refl _) (fun o g => ⟨k _ _ (by omega) (by omega) (by omega) (by omega) (by omega) g, by omega⟩) fun y o g p1 p2 p3 => ⟨k _ _ (by omega) (by omega) (by omega) (by omega) (by omega) g, p2, p3⟩⟩
theorem Core.bound (C : Core w fa L f cc B DB MS P I sc dc pm ct oc oI U n c kM kP tt tv h) (F : Fr h₀ L h m) (hI : ∃ o, h.get? I = some o) {D : List Nat} (hD : ∀ d ∈ D, d = L+1+1+1+1 ∨ d = L+1+1+1+1+1 ∨ d = L+1+1+1+1+1+1) (hx : ∀ x, Old h₀ L D h x → x < U') : Core w fa L f cc B DB MS P I sc dc pm ct oc oI U' n c kM kP tt tv h := by
  obtain ⟨lt, gf, gc, gI, g183, cS, cB, cP, gB, bd, dM, dP, keys, lenP, fI, tabs, inj⟩ := C
  have b : ∀ (y : Nat) o, h.get? y = some o → L+1+1+1+1+1+1 < y → y < U' := fun y o g l => hx y (old_of F g (by omega) fun hm => by have := hD _ hm; omega)
  obtain ⟨oi, gi⟩ := hI
  refine ⟨by have := b _ _ gi (by omega); omega, gf, gc, gI, g183, cS, cB, cP, gB, bd, dM, dP, keys, lenP, fI, fun mod u v hu hv => ?_, inj⟩
  obtain ⟨TM, PT, e1, e2, tb⟩ := tabs mod u v hu hv
  have := tb.l1
  exact ⟨TM, PT, e1, e2, tb.up (Int.le_refl _) (fun o g => ⟨g, b _ _ g (by omega)⟩) fun y o g p1 p2 p3 => ⟨g, b _ _ g (by omega), p3⟩⟩
theorem Core.raise (C : Core w fa L f cc B DB MS P I sc dc pm ct oc oI U n c kM kP tt tv h) (hU : U ≤ U') (hn : n ≤ n') : Core w fa L f cc B DB MS P I sc dc pm ct oc oI U' n' c kM kP tt tv h := by
  obtain ⟨lt, gf, gc, gI, g183, cS, cB, cP, gB, bd, dM, dP, keys, lenP, fI, tabs, inj⟩ := C
  refine ⟨by omega, gf, gc, gI, g183, cS, cB, cP, gB, bd, dM, dP, keys, by omega, fI, fun mod u v hu hv => ?_, inj⟩
  obtain ⟨TM, PT, e1, e2, tb⟩ := tabs mod u v hu hv
  have := tb.l1
  exact ⟨TM, PT, e1, e2, tb.up hn (fun o g => ⟨g, by omega⟩) fun y o g p1 p2 p3 => ⟨g, by omega, p3⟩⟩
def upd (t : Str → List (Str × Value)) (k : Str) (v : List (Str × Value)) : Str → List (Str × Value) := fun x => if x = k then v else t x
theorem free_new {mod : Str} {TM : Nat} {kM' : List (Str × Value)} (hM : (kM' = kM ∧ valueAt kM mod = some (.ref TM)) ∨ (kM' = stored kM mod (.ref TM) ∧ valueAt kM mod = none ∧ U ≤ TM)) {y : Nat} (hy : y < U) (x : Free kM y) : Free kM' y := by
  rcases hM with ⟨rfl, _⟩ | ⟨rfl, _, hU⟩
  · exact x
  · intro mod' e
    rcases val_stored e with ⟨_, e⟩ | ⟨_, e⟩
    · cases e; omega
    · exact x mod' e
/-- a module's tables are new -/
theorem Core.set (C : Core w fa L f cc B DB MS P I sc dc pm ct oc oI U n c kM kP tt tv h) {D : List Nat} (K : Keeps L D h h') {mod : Str} {TM TB : Nat} {kM' kT' kV' : List (Str × Value)} {c' : Int}
    (hD : ∀ d ∈ D, d = L+1+1+1+1 ∨ d = L+1+1+1+1+1 ∨ d = L+1+1+1+1+1+1 ∨ d = MS ∨ d = DB ∨ d = P ∨ valueAt kM mod = some (.ref d) ∨ U ≤ d) (hU : U ≤ U') (hn : n ≤ n')
    (hM : (kM' = kM ∧ valueAt kM mod = some (.ref TM)) ∨ (kM' = stored kM mod (.ref TM) ∧ valueAt kM mod = none ∧ U ≤ TM)) (dM' : DIs w h' MS kM') (dP' : DIs w h' P (stored kP mod (.ref TB))) (bd' : BIs w h' DB MS c')
    (lenP' : ((stored kP mod (.ref TB)).length : Int) ≤ n') (tab' : Tab w P U' n' kM' h' TM TB kT' kV') :
    Core w fa L f cc B DB MS P I sc dc pm ct oc oI U' n' c' kM' (stored kP mod (.ref TB)) (upd tt mod kT') (upd tv mod kV') h' := by
  obtain ⟨lt, gf, gc, gI, ⟨ps, g183⟩, cS, cB, cP, gB, bd, dM, dP, keys, lenP, fI, tabs, inj⟩ := C
  have low : ∀ d, valueAt kM mod = some (.ref d) → P < d := fun d hd => by
    obtain ⟨v, hv⟩ := val_some_par keys.symm hd
    obtain ⟨TM', PT, e1, e2, tb⟩ := tabs mod _ v hd hv
    cases e1; exact tb.l1.1
  have k : ∀ (b : Nat) o, b ≠ L → b ≠ L+1+1+1+1 → b ≠ L+1+1+1+1+1 → b ≠ L+1+1+1+1+1+1 → b ≠ MS → b ≠ DB → b ≠ P → b < U → (b ≤ P ∨ ∀ d, valueAt kM mod = some (.ref d) → b ≠ d) → h.get? b = some o → h'.get? b = some o := fun b o h1 h2 h3 h4 h5 h6 h7 h8 h9 g => K b o h1 (fun hm => by
    rcases hD _ hm with h | h | h | h | h | h | h | h
    · exact h2 h
    · exact h3 h
    · exact h4 h
    · exact h5 h
    · exact h6 h
    · exact h7 h
    · rcases h9 with h9 | h9
      · have := low b h; omega
      · exact h9 b h rfl
    · omega) g
  have k1 : ∀ (b : Nat) o, b ≠ L → b ≠ L+1+1+1+1 → b ≠ L+1+1+1+1+1 → b ≠ L+1+1+1+1+1+1 → b ≠ MS → b ≠ DB → b < P → h.get? b = some o → h'.get? b = some o := fun b o h1 h2 h3 h4 h5 h6 h7 g => k b o h1 h2 h3 h4 h5 h6 (by omega) (by omega) (.inl (by omega)) g
  have fr : ∀ (y : Nat) o, h.get? y = some o → P < y → y < U → Free kM y → (h'.get? y = some o ∧ y < U' ∧ Free kM' y) := fun y o g p1 p2 p3 => ⟨k y o (by omega) (by omega) (by omega) (by omega) (by omega) (by omega) (by omega) p2 (.inr fun d hd e => p3 mod (e ▸ hd)) g, by omega, free_new hM p2 p3⟩
  have vM : ∀ mod', mod' ≠ mod → valueAt kM' mod' = valueAt kM mod' := fun mod' hne => by
    rcases hM with ⟨rfl, _⟩ | ⟨rfl, _, _⟩
    · rfl
    · exact val_ne _ _ hne
  have vMs : valueAt kM' mod = some (.ref TM) := by
    rcases hM with ⟨rfl, e⟩ | ⟨rfl, _, _⟩
    · exact e
    · exact val_self _ _ _
  have injT : ∀ mod', mod' ≠ mod → valueAt kM mod' ≠ some (.ref TM) := fun mod' hne e => by
    rcases hM with ⟨rfl, e'⟩ | ⟨rfl, _, hU'⟩
    · exact hne (inj _ _ _ e e')
    · obtain ⟨v, hv⟩ := val_some_par keys.symm e
      obtain ⟨TM', PT, e1, e2, tb⟩ := tabs mod' _ v e hv
      cases e1
      have := tb.l1
      omega
  refine ⟨by omega, k1 _ _ (by omega) (by omega) (by omega) (by omega) (by omega) (by omega) (by omega) gf, k1 _ _ (by omega) (by omega) (by omega) (by omega) (by omega) (by omega) (by omega) gc, fun o e => ?_, ⟨ps, k1 _ _ (by omega) (by omega) (by omega) (by omega) (by omega) (by omega) (by omega) g183⟩,
    cis_up' cS fun o g => k1 _ _ (by omega) (by omega) (by omega) (by omega) (by omega) (by omega) (by omega) g, cis_up' cB fun o g => k1 _ _ (by omega) (by omega) (by omega) (by omega) (by omega) (by omega) (by omega) g, cis_up' cP fun o g => k1 _ _ (by omega) (by omega) (by omega) (by omega) (by omega) (by omega) (by omega) g,
    k1 _ _ (by omega) (by omega) (by omega) (by omega) (by omega) (by omega) (by omega) gB, bd', dM', dP', ?_, lenP', free_new hM (by omega) fI, fun mod' u v hu hv => ?_, fun mod1 mod2 TM' h1 h2 => ?_⟩
  · exact (fr I o (gI o e) (by omega) (by omega) fI).1
  · rcases hM with ⟨rfl, e⟩ | ⟨rfl, e, _⟩
    · obtain ⟨v, hv⟩ := val_some_par keys.symm e
      rw [keys]
      have : (stored kP mod (.ref TB)).map (·.1) = (stored kP mod v).map (·.1) := keys_stored rfl _ _ _
      rw [this]
      have hs : kP.any (fun kv => kv.1 = mod) = true := by
        have hm : mod ∈ kP.map (·.1) := Decidable.byContradiction fun q => by rw [val_none_iff.mpr q] at hv; cases hv
        obtain ⟨p, hp, e⟩ := List.mem_map.mp hm
        exact List.any_eq_true.mpr ⟨p, hp, by simpa using e⟩
      unfold stored
      rw [if_pos hs, List.map_map]
      refine List.map_congr_left fun p _ => ?_
      by_cases z : p.1 = mod
      · simp [z]
      · simp [z]
    · exact keys_stored keys _ _ _
  · by_cases q : mod' = mod
    · subst q
      rw [vMs] at hu; cases hu
      rw [val_self] at hv; cases hv
      exact ⟨TM, TB, rfl, rfl, by simpa [upd] using tab'⟩
    · rw [vM _ q] at hu
      rw [val_ne _ _ q] at hv
      obtain ⟨TM', PT, rfl, rfl, tb⟩ := tabs mod' u v hu hv
      have l1 := tb.l1
      refine ⟨TM', PT, rfl, rfl, ?_⟩
      rw [show upd tt mod kT' mod' = tt mod' from if_neg q, show upd tv mod kV' mod' = tv mod' from if_neg q]
      exact tb.up hn (fun o g => ⟨k TM' o (by omega) (by omega) (by omega) (by omega) (by omega) (by omega) (by omega) l1.2 (.inr fun d hd e => q (inj _ _ _ (e ▸ hu) hd)) g, by omega⟩) fr
  · by_cases q1 : mod1 = mod <;> by_cases q2 : mod2 = mod
    · rw [q1, q2]
    · subst q1
      rw [vMs] at h1; cases h1
      rw [vM _ q2] at h2
      exact absurd h2 (injT _ q2)
    · subst q2
      rw [vMs] at h2; cases h2
      rw [vM _ q1] at h1
      exact absurd h1 (injT _ q1)
    · rw [vM _ q1] at h1
      rw [vM _ q2] at h2
      exact inj _ _ _ h1 h2
/-- a module goes -/
theorem Core.del (C : Core w fa L f cc B DB MS P I sc dc pm ct oc oI U n c kM kP tt tv h) {D : List Nat} (K : Keeps L D h h') {mod : Str} {kP' : List (Str × Value)} {c' : Int}
    (hD : ∀ d ∈ D, d = L+1+1+1+1 ∨ d = L+1+1+1+1+1 ∨ d = L+1+1+1+1+1+1 ∨ d = MS ∨ d = DB ∨ d = P ∨ valueAt kM mod = some (.ref d) ∨ U ≤ d) (hU : U ≤ U') (hn : n ≤ n')
    (dM' : DIs w h' MS (without kM mod)) (dP' : DIs w h' P kP') (hP1 : kP'.map (·.1) = (without kP mod).map (·.1)) (hP2 : ∀ mod' v, valueAt kP' mod' = some v → mod' ≠ mod ∧ valueAt kP mod' = some v) (bd' : BIs w h' DB MS c') :
    Core w fa L f cc B DB MS P I sc dc pm ct oc oI U' n' c' (without kM mod) kP' tt tv h' := by
  obtain ⟨lt, gf, gc, gI, ⟨ps, g183⟩, cS, cB, cP, gB, bd, dM, dP, keys, lenP, fI, tabs, inj⟩ := C
  have low : ∀ d, valueAt kM mod = some (.ref d) → P < d := fun d hd => by
    obtain ⟨v, hv⟩ := val_some_par keys.symm hd
    obtain ⟨TM', PT, e1, e2, tb⟩ := tabs mod _ v hd hv
    cases e1; exact tb.l1.1
  have k : ∀ (b : Nat) o, b ≠ L → b ≠ L+1+1+1+1 → b ≠ L+1+1+1+1+1 → b ≠ L+1+1+1+1+1+1 → b ≠ MS → b ≠ DB → b ≠ P → b < U → (b ≤ P ∨ ∀ d, valueAt kM mod = some (.ref d) → b ≠ d) → h.get? b = some o → h'.get? b = some o := fun b o h1 h2 h3 h4 h5 h6 h7 h8 h9 g => K b o h1 (fun hm => by
    rcases hD _ hm with h | h | h | h | h | h | h | h
    · exact h2 h
    · exact h3 h
    · exact h4 h
    · exact h5 h
    · exact h6 h
    · exact h7 h
    · rcases h9 with h9 | h9
      · have := low b h; omega
      · exact h9 b h rfl
    · omega) g
  have k1 : ∀ (b : Nat) o, b ≠ L → b ≠ L+1+1+1+1 → b ≠ L+1+1+1+1+1 → b ≠ L+1+1+1+1+1+1 → b ≠ MS → b ≠ DB → b < P → h.get? b = some o → h'.get? b = some o := fun b o h1 h2 h3 h4 h5 h6 h7 g => k b o h1 h2 h3 h4 h5 h6 (by omega) (by omega) (.inl (by omega)) g
  have fre : ∀ y, Free kM y → Free (without kM mod) y := fun y x mod' e => x mod' (val_without e).2
  have fr : ∀ (y : Nat) o, h.get? y = some o → P < y → y < U → Free kM y → (h'.get? y = some o ∧ y < U' ∧ Free (without kM mod) y) := fun y o g p1 p2 p3 => ⟨k y o (by omega) (by omega) (by omega) (by omega) (by omega) (by omega) (by omega) p2 (.inr fun d hd e => p3 mod (e ▸ hd)) g, by omega, fre y p3⟩
  have hlen : (kP'.length : Int) ≤ n' := by
    have h1 := congrArg List.length hP1
    simp only [List.length_map] at h1
    have h2 : (without kP mod).length ≤ kP.length := List.length_filter_le _ _
    omega
  refine ⟨by omega, k1 _ _ (by omega) (by omega) (by omega) (by omega) (by omega) (by omega) (by omega) gf, k1 _ _ (by omega) (by omega) (by omega) (by omega) (by omega) (by omega) (by omega) gc, fun o e => ?_, ⟨ps, k1 _ _ (by omega) (by omega) (by omega) (by omega) (by omega) (by omega) (by omega) g183⟩,
    cis_up' cS fun o g => k1 _ _ (by omega) (by omega) (by omega) (by omega) (by omega) (by omega) (by omega) g, cis_up' cB fun o g => k1 _ _ (by omega) (by omega) (by omega) (by omega) (by omega) (by omega) (by omega) g, cis_up' cP fun o g => k1 _ _ (by omega) (by omega) (by omega) (by omega) (by omega) (by omega) (by omega) g,
    k1 _ _ (by omega) (by omega) (by omega) (by omega) (by omega) (by omega) (by omega) gB, bd', dM', dP', (keys_without keys mod).trans hP1.symm, hlen, fre _ fI, fun mod' u v hu hv => ?_, fun mod1 mod2 TM' h1 h2 => inj _ _ _ (val_without h1).2 (val_without h2).2⟩
  · exact (fr I o (gI o e) (by omega) (by omega) fI).1
  · obtain ⟨q, hu'⟩ := val_without hu
    obtain ⟨_, hv'⟩ := hP2 _ _ hv
    obtain ⟨TM', PT, rfl, rfl, tb⟩ := tabs mod' u v hu' hv'
    have l1 := tb.l1
    exact ⟨TM', PT, rfl, rfl, tb.up hn (fun o g => ⟨k TM' o (by omega) (by omega) (by omega) (by omega) (by omega) (by omega) (by omega) l1.2 (.inr fun d hd e => q (inj _ _ _ (e ▸ hu') hd)) g, by omega⟩) fr⟩
theorem Core.s7 (C : Core w fa L f cc B DB MS P I sc dc pm ct oc oI U n c kM kP tt tv h) (hn : n ≤ 1000) : S7 L B DB MS P kM kP := ⟨by have := C.lt; omega, C.keys, by have := C.lenP; omega⟩
theorem Core.tabsH (C : Core w fa L f cc B DB MS P I sc dc pm ct oc oI U n c kM kP tt tv h) (hn : n ≤ 1000) : TabsH w (L+1+1+1+1+1+1) h kM kP tt tv := fun mod u v hu hv => by
  obtain ⟨TM, PT, e1, e2, tb⟩ := C.tabs mod u v hu hv
  have := C.lt
  have := tb.l1
  have := tb.l2
  have := tb.len
  refine ⟨TM, PT, e1, e2, by omega, by omega, tb.dT, tb.dV, tb.keys, by omega, fun nm a b ha hb => ?_⟩
  obtain ⟨nd, d, tp, lab, num, f1, f2, ni, _, _, ⟨a1, _, _⟩, ⟨b1, _, _⟩, _⟩ := tb.ents nm a b ha hb
  exact ⟨nd, d, tp, lab, f1, f2, by omega, by omega, ni⟩
theorem Core.e7 (C : Core w fa L f cc B DB MS P I sc dc pm ct oc oI U n c kM kP tt tv h) (hn : n ≤ 1000) : E7 w L B DB MS P c kM kP tt tv h := ⟨C.cB, C.cP, C.gB, C.bd, C.dM, C.dP, C.tabsH hn⟩
end
end Mine
namespace Mine
abbrev nTold : Str := Str.ofString "told"
abbrev nChanges : Str := Str.ofString "changes"
abbrev nDraw : Str := Str.ofString "draw"
theorem Old.mono {h₀ h : Heap} {L x : Nat} {D D' : List Nat} (o : Old h₀ L D h x) (hd : ∀ d ∈ D', d ∈ D) : Old h₀ L D' h x := ⟨o.1, o.2.1, o.2.2.1, fun q => o.2.2.2 (hd _ q)⟩
section
variable {w : World} {s : Shared} {h₀ : Heap} {mg mb m : Str → Option Value} {loose : List Str} {mean : ExcName → Option Value} {fa L f cc B DB MS P I sc U : Nat} {dc pm ct : Value} {oc : Obj} {oI : Option Obj} {n c c2 : Int} {kM kP : List (Str × Value)} {tt tv : Str → List (Str × Value)}
    (X : (hd.heap_39 w.params).In h₀) (T : Top topProg loose mean mg mb h₀) (Bl : Below callerA h₀ [] h₀)
include X T Bl
theorem turn_tail (F : Fr h₀ L s.heap m) (C : Core w fa L f cc B DB MS P I sc dc pm ct oc oI U n c2 kM kP tt tv s.heap) (hn : n ≤ 1000) {b : Bool} (hc : 0 ≤ c ∧ c < 900) (hc2 : c2 = c + if b then 1 else 0)
    (told : ∃ t, m nTold = some (.str (txt b) t)) (due : ∃ t, m nDue = some (.str (txt b) t)) (ch : ∃ t, m nChanges = some (.int c t)) (cT : ∃ o v, s.heap.get? (L+1+1+1+1+1+1) = some o ∧ o.data = .cell v) (E : Value → Shared → Prop) :
    wpAny (model prg w) (callerA.deeper (envLaw fa L)) (execs [tst 4, tst 5, tst 6, tst 7] (envLaw fa L)) (StX h₀ L [L+1+1+1+1+1+1] (fun _ f m' h' => f = .next ∧ (∃ t, m' nChanges = some (.int c2 t)) ∧ (∃ o v, h'.get? (L+1+1+1+1+1+1) = some o ∧ o.data = .cell v) ∧ ∀ y, y ≠ nChanges ∧ y ≠ nModule ∧ y ≠ nNames ∧ y ≠ nFound ∧ y ≠ nAnswer → m' y = m y) s) E s := by
  have lt := C.lt
  have S := C.s7 hn
  obtain ⟨t1, told⟩ := told
  obtain ⟨t2, due⟩ := due
  obtain ⟨t3, ch⟩ := ch
  obtain ⟨oP, gP, dcP⟩ := C.cP
  have old : ∀ {s' : Shared} {m' : Str → Option Value}, Fr h₀ L s'.heap m' → Keeps L [] s.heap s'.heap → Old h₀ L [] s'.heap (L+1+1+1) := fun F' K => old_of F' (K _ _ (by show L+1+1+1 ≠ L; omega) (by simp) gP) (by omega) (by simp)
  -- tst 4
  have i0 := old F (Keeps.refl _)
  have st4 : wpAny (model prg w) (callerA.deeper (envLaw fa L)) (exec (tst 4) (envLaw fa L)) (StX h₀ L [] (fun _ f m' h' => f = .next ∧ (∃ t, m' nChanges = some (.int c2 t)) ∧ ∀ y, y ≠ nChanges → m' y = m y) s) E s := by
    cases b with
    | true =>
      have e : c2 = c + 1 := hc2
      rw [e]
      exact lift_x F i0 fun x ox a b c' _ => st4_done X T Bl F (news_1 a b c') ⟨hc.1, by omega⟩ ch due
    | false =>
      have e : c2 = c + 0 := hc2
      rw [e]
      exact lift_x F i0 fun x ox a b c' _ => st4_ref X T Bl F (news_1 a b c') ⟨hc.1, by omega⟩ ch due
  refine seq st4 i0 (fun _ _ _ _ h => h.1) fun s₁ m₁ lk₁ F₁ K₁ hP₁ => ?_
  obtain ⟨_, ⟨t4, ch₁⟩, hm₁⟩ := hP₁ _ i0
  have told₁ := (hm₁ nTold (by decide +kernel)).trans told
  have due₁ := (hm₁ nDue (by decide +kernel)).trans due
  have C₁ := C.keep K₁ (by simp)
  have i1 := old F₁ K₁
  -- tst 5
  have st5 : wpAny (model prg w) (callerA.deeper (envLaw fa L)) (exec (tst 5) (envLaw fa L)) (StX h₀ L [] (fun _ f m' h' => f = .next ∧ ∀ y, m' y = m₁ y) s₁) E s₁ := by
    obtain ⟨oB₁, gcB₁, dcB₁⟩ := C₁.cB
    obtain ⟨oP₁, gcP₁, dcP₁⟩ := C₁.cP
    obtain ⟨q1, q2, q3, ct', tN, gDB⟩ := C₁.bd
    obtain ⟨oMS, gMS, hMS, lMS⟩ := C₁.dM
    obtain ⟨oPT, gPT, hPT, lPT⟩ := C₁.dP
    have lM : kM.length ≤ 1000 := by have := len_par C₁.keys; have := C₁.lenP; omega
    have lP : kP.length ≤ 1000 := by have := C₁.lenP; omega
    have hcc : 0 ≤ c2 ∧ c2 < 1000 := by cases b <;> simp at hc2 <;> omega
    have NN : ∀ x ox, s₁.heap.get? x = some ox → h₀.get? x = none → x ≠ L → News h₀ L s₁.heap [(L+1+1, oB₁), (L+1+1+1, oP₁), (B, instObj 121 DB), (DB, bD w q1 q2 q3 (.int c2 ct') tN MS), (MS, oMS), (P, oPT), (x, ox)] := fun x ox a b c' =>
      news_c F₁ gcB₁ (by omega) (news_c F₁ gcP₁ (by omega) (news_c F₁ C₁.gB (by omega) (news_c F₁ gDB (by omega) (news_c F₁ gMS (by omega) (news_c F₁ gPT (by omega) (news_1 a b c'))))))
    have hlt : L+1+1+1 < DB ∧ DB < B ∧ B < MS ∧ MS < P := by omega
    cases b with
    | true => exact lift_x F₁ i1 fun x ox a b c' _ => st5_done X T Bl F₁ (NN x ox a b c') dcB₁ dcP₁ hMS lMS lM hPT lPT lP hlt hcc C₁.keys told₁ due₁ ch₁
    | false => exact lift_x F₁ i1 fun x ox a b c' _ => st5_ref X T Bl F₁ (NN x ox a b c') dcB₁ dcP₁ hMS lMS lM hPT lPT lP hlt hcc C₁.keys told₁ due₁ ch₁
  refine seq st5 i1 (fun _ _ _ _ h => h.1) fun s₂ m₂ lk₂ F₂ K₂ hP₂ => ?_
  obtain ⟨_, hm₂⟩ := hP₂ _ i1
  have K₀₂ := K₁.t2 K₂
  have C₂ := C.keep K₀₂ (by simp)
  have i2 := old F₂ K₀₂
  -- tst 6
  refine seq (st6 X T Bl F₂ C₂.cB C₂.cP C₂.gB C₂.bd C₂.dM C₂.dP (by omega) C₂.keys (by have := C₂.lenP; omega) ((C₂.tabsH hn).low (by omega)) _) i2 (fun _ _ _ _ h => h.1) fun s₃ m₃ lk₃ F₃ K₃ hP₃ => ?_
  obtain ⟨_, hm₃⟩ := hP₃ _ i2
  have K₀₃ := K₀₂.t2 K₃
  have C₃ := C.keep K₀₃ (by simp)
  have i3 := old F₃ K₀₃
  obtain ⟨oT, vT, gT, dT⟩ := cT
  have gT₃ := K₀₃ _ _ (by show L+1+1+1+1+1+1 ≠ L; omega) (by simp) gT
  -- tst 7
  have i3' : Old h₀ L [L+1+1+1+1+1+1] s₃.heap (L+1+1+1) := old_of F₃ (K₀₃ _ _ (by show L+1+1+1 ≠ L; omega) (by simp) gP) (by omega) (by simp)
  refine last (st7 X T Bl F₃ S (C₃.e7 hn) ⟨oT, vT, gT₃, dT⟩ _) i3' (fun _ _ _ _ h => h.1) fun s₄ m₄ lk₄ F₄ K₄ hP₄ => ?_
  obtain ⟨_, cT₄, hm₄⟩ := hP₄ _ i3'
  refine ⟨m₄, ((lk₁.trans lk₂).trans lk₃).trans lk₄, F₄, fun b o n hd e => K₄ b o n hd (K₀₃ b o n (by simp) e), fun _ _ => ⟨rfl, ⟨t4, ?_⟩, cT₄, fun y hy => ?_⟩⟩
  · exact (hm₄ _ (by decide +kernel)).trans ((hm₃ _).trans ((hm₂ _).trans ch₁))
  · exact (hm₄ y hy.2).trans ((hm₃ _).trans ((hm₂ _).trans (hm₁ y hy.1)))
end
end Mine
namespace Mine
theorem rz1_mono {h₀ : Heap} {fa L : Addr} {m : Str → Option Value} {C x : Addr} {ox : Obj} {P P' : Heap → Prop} {s : Shared} {e : Value} {s' : Shared} (h : Rz1 h₀ fa L m C x ox P s e s') (k : ∀ B : Heap, B.get? x = some ox → P B → P' B) : Rz1 h₀ fa L m C x ox P' s e s' := by
  obtain ⟨a, t, vs, h', tk, ns, e1, e2, F, R, hm, hp⟩ := h
  exact ⟨a, t, vs, h', tk, ns, e1, e2, F, R, hm, fun B hB => k B (hB _ hm) (hp B hB)⟩
theorem stx_conv {α : Type} {h₀ : Heap} {L : Nat} {D D' : List Nat} {P : Nat → α → (Str → Option Value) → Heap → Prop} {Q : α → (Str → Option Value) → Heap → Prop} {s s' : Shared} {a : α} (h : StX h₀ L D P s a s') {x₀ : Nat} (i0 : Old h₀ L D s.heap x₀) (hD : ∀ d ∈ D, d ∈ D')
    (k : ∀ m', P x₀ a m' s'.heap → Keeps L D s.heap s'.heap → Q a m' s'.heap) : StX h₀ L D' (fun _ => Q) s a s' := by
  obtain ⟨m', lk, F, K, hp⟩ := h
  exact ⟨m', lk, F, K.mono hD, fun _ _ => k m' (hp _ i0) K⟩
/-- what is left of a module behind unexport_symbols: r is its table, and whether the deed is done -/
def UnP (w : World) (DB MS TM : Nat) (c : Int) (kM : List (Str × Value)) (mod : Str) (r : List (Str × Value) × Bool) (m m' : Str → Option Value) (h' : Heap) : Prop :=
  (r.2 = true → BIs w h' DB MS (c + 1) ∧ ∀ y, m' y = m y) ∧ (r.2 = false → BIs w h' DB MS c ∧ (∃ t, m' nTold = some (.str (Str.ofString "refused") t)) ∧ ∀ y, y ≠ nTold → m' y = m y) ∧
    (r.2 = true ∧ r.1 = [] → DIs w h' MS (without kM mod)) ∧ (¬ (r.2 = true ∧ r.1 = []) → DIs w h' MS kM ∧ DIs w h' TM r.1)
theorem ni1 {a b : Nat} (h : a ≠ b) : a ∉ ([b] : List Nat) := by simpa using h
theorem ni2 {a b c : Nat} (h : a ≠ b) (h' : a ≠ c) : a ∉ ([b, c] : List Nat) := by simp; exact ⟨h, h'⟩
theorem ni3 {a b c d : Nat} (h : a ≠ b) (h' : a ≠ c) (h'' : a ≠ d) : a ∉ ([b, c, d] : List Nat) := by simp; exact ⟨h, h', h''⟩
theorem cuts_1 {kT : List (Str × Value)} {nm : Str} : cuts kT true [nm] = cut (kT, true) nm := rfl
theorem cuts_2 {kT : List (Str × Value)} {nm nm2 : Str} : cuts kT true [nm, nm2] = cut (cut (kT, true) nm) nm2 := rfl
section
variable {w : World} {s : Shared} {h₀ : Heap} {fa L B DB MS TM P NM : Nat} {m mg mb : Str → Option Value} {loose : List Str} {mean : ExcName → Option Value} {mod nm nm2 : Str} {t1 t2 t3 t4 : Tok} {cN : Nat} {c : Int} {kM kT : List (Str × Value)}
    (X : (hd.heap_39 w.params).In h₀) (T : Top topProg loose mean mg mb h₀) (Bl : Below callerA h₀ [] h₀)
include X T Bl
theorem ust4_0a (F : Fr h₀ L s.heap m) (lt : L+1+1+1+1+1+1 < DB ∧ DB < B ∧ B < MS ∧ MS < P) (cB : CIs s.heap (L+1+1) (.ref B)) (gB : s.heap.get? B = some (instObj 121 DB)) (bd : BIs w s.heap DB MS c) (dM : DIs w s.heap MS kM)
    {oP : Obj} (gP : s.heap.get? P = some oP) (hkM : kM.length ≤ 1000) (hc : 0 ≤ c ∧ c < 900) (lm : mod.length ≤ 1000) 
    (gN : s.heap.get? NM = some (W.listOf #[] cN)) (lN : L < NM) (l0 : m nNames = some (.ref NM)) (l1 : m nModule = some (.str mod t1)) (l2 : m nTold = some (.str (Str.ofString "done") t2))
    (v1 : valueAt kM mod = none) (E : Value → Shared → Prop) :
    wpAny (model prg w) (callerA.deeper (envLaw fa L)) (exec (ust 4) (envLaw fa L)) (StX h₀ L [] (fun _ f m' _ => f = .next ∧ (∃ t, m' nTold = some (.str (Str.ofString "refused") t)) ∧ ∀ y, y ≠ nTold → m' y = m y) s) E s := by
  obtain ⟨oB, gcB, dcB⟩ := cB
  obtain ⟨q1, q2, q3, ct, tN, gDB⟩ := id bd
  obtain ⟨oMS, gMS, hMS, lMS⟩ := id dM

  have NN : ∀ x ox, s.heap.get? x = some ox → h₀.get? x = none → x ≠ L → News h₀ L s.heap [(L+1+1, oB), (B, instObj 121 DB), (DB, bD w q1 q2 q3 (.int c ct) tN MS), (MS, oMS), (P, oP), (NM, W.listOf #[] cN), (x, ox)] := fun x ox a b c' =>
    news_c F gcB (by omega) (news_c F gB (by omega) (news_c F gDB (by omega) (news_c F gMS (by omega) (news_c F gP (by omega) (news_c F gN lN (news_1 a b c'))))))
  have hlt : L+1+1 < DB ∧ DB < B := by omega
  have i0 : Old h₀ L [] s.heap (L+1+1) := old_of F gcB (by omega) (by simp)
  refine wpAny_mono (lift_x F i0 fun x ox a b c' _ => ust4_0 (PO := fun _ _ => False) (RO := fun _ _ => True) (Qe := fun _ _ => True) (a1 := x) (a2 := x) X T Bl F (NN x ox a b c') dcB hlt ⟨⟨c', b⟩, ⟨c', b⟩, c', b⟩ (fun s' m' F' N' => wpAny_mono (un_0_no (kT := []) (PO := fun _ _ => False) (RO := fun _ _ => True) X T Bl F' (news_cons (news_of N' (.head _)) (news_cons (news_of N' (.tail _ (.head _))) (news_cons (news_of N' (.tail _ (.tail _ (.head _)))) (news_of N' (.tail _ (.tail _ (.tail _ (.tail _ (.head _))))))))) hMS lMS ⟨lt.2.1, lt.2.2.1⟩ lm  hkM (Nat.zero_le _) ⟨hc.1, by omega⟩ v1) (fun _ _ h => h) fun e s2 h => rz1_mono h fun B g _ => ⟨ox, ox, g, g, trivial⟩) l0 l1 l2)
    (fun f s' h => stx_conv (Q := fun f m' _ => f = .next ∧ (∃ t, m' nTold = some (.str (Str.ofString "refused") t)) ∧ ∀ y, y ≠ nTold → m' y = m y) h i0 (by simp) fun m' ⟨p1, p2⟩ K => ?_) fun _ _ e => e
  rcases p2 with ⟨v, h, _⟩ | ⟨_, p2, p3⟩
  · exact h.elim
  · exact ⟨p1, p2, p3⟩
theorem ust4_1a (F : Fr h₀ L s.heap m) (lt : L+1+1+1+1+1+1 < DB ∧ DB < B ∧ B < MS ∧ MS < P) (cB : CIs s.heap (L+1+1) (.ref B)) (gB : s.heap.get? B = some (instObj 121 DB)) (bd : BIs w s.heap DB MS c) (dM : DIs w s.heap MS kM)
    {oP : Obj} (gP : s.heap.get? P = some oP) (hkM : kM.length ≤ 1000) (hc : 0 ≤ c ∧ c < 900) (lm : mod.length ≤ 1000) (lnm : nm.length ≤ 1000)
    (gN : s.heap.get? NM = some (W.listOf #[.str nm t4] cN)) (lN : L < NM) (l0 : m nNames = some (.ref NM)) (l1 : m nModule = some (.str mod t1)) (l2 : m nTold = some (.str (Str.ofString "done") t2))
    (v1 : valueAt kM mod = none) (E : Value → Shared → Prop) :
    wpAny (model prg w) (callerA.deeper (envLaw fa L)) (exec (ust 4) (envLaw fa L)) (StX h₀ L [] (fun _ f m' _ => f = .next ∧ (∃ t, m' nTold = some (.str (Str.ofString "refused") t)) ∧ ∀ y, y ≠ nTold → m' y = m y) s) E s := by
  obtain ⟨oB, gcB, dcB⟩ := cB
  obtain ⟨q1, q2, q3, ct, tN, gDB⟩ := id bd
  obtain ⟨oMS, gMS, hMS, lMS⟩ := id dM

  have NN : ∀ x ox, s.heap.get? x = some ox → h₀.get? x = none → x ≠ L → News h₀ L s.heap [(L+1+1, oB), (B, instObj 121 DB), (DB, bD w q1 q2 q3 (.int c ct) tN MS), (MS, oMS), (P, oP), (NM, W.listOf #[.str nm t4] cN), (x, ox)] := fun x ox a b c' =>
    news_c F gcB (by omega) (news_c F gB (by omega) (news_c F gDB (by omega) (news_c F gMS (by omega) (news_c F gP (by omega) (news_c F gN lN (news_1 a b c'))))))
  have hlt : L+1+1 < DB ∧ DB < B := by omega
  have i0 : Old h₀ L [] s.heap (L+1+1) := old_of F gcB (by omega) (by simp)
  refine wpAny_mono (lift_x F i0 fun x ox a b c' _ => ust4_1 (PO := fun _ _ => False) (RO := fun _ _ => True) (Qe := fun _ _ => True) (a1 := x) (a2 := x) X T Bl F (NN x ox a b c') dcB hlt ⟨⟨c', b⟩, ⟨c', b⟩, c', b⟩ (fun s' m' F' N' => wpAny_mono (un_1_no (kT := []) (PO := fun _ _ => False) (RO := fun _ _ => True) X T Bl F' (news_cons (news_of N' (.head _)) (news_cons (news_of N' (.tail _ (.head _))) (news_cons (news_of N' (.tail _ (.tail _ (.head _)))) (news_of N' (.tail _ (.tail _ (.tail _ (.tail _ (.head _))))))))) hMS lMS ⟨lt.2.1, lt.2.2.1⟩ lm lnm hkM (Nat.zero_le _) ⟨hc.1, by omega⟩ v1) (fun _ _ h => h) fun e s2 h => rz1_mono h fun B g _ => ⟨ox, ox, g, g, trivial⟩) l0 l1 l2)
    (fun f s' h => stx_conv (Q := fun f m' _ => f = .next ∧ (∃ t, m' nTold = some (.str (Str.ofString "refused") t)) ∧ ∀ y, y ≠ nTold → m' y = m y) h i0 (by simp) fun m' ⟨p1, p2⟩ K => ?_) fun _ _ e => e
  rcases p2 with ⟨v, h, _⟩ | ⟨_, p2, p3⟩
  · exact h.elim
  · exact ⟨p1, p2, p3⟩
theorem ust4_2a (F : Fr h₀ L s.heap m) (lt : L+1+1+1+1+1+1 < DB ∧ DB < B ∧ B < MS ∧ MS < P) (cB : CIs s.heap (L+1+1) (.ref B)) (gB : s.heap.get? B = some (instObj 121 DB)) (bd : BIs w s.heap DB MS c) (dM : DIs w s.heap MS kM)
    {oP : Obj} (gP : s.heap.get? P = some oP) (hkM : kM.length ≤ 1000) (hc : 0 ≤ c ∧ c < 900) (lm : mod.length ≤ 1000) (lnm : nm.length ≤ 1000) (lnm2 : nm2.length ≤ 1000)
    (gN : s.heap.get? NM = some (W.listOf #[.str nm t4, .str nm2 t3] cN)) (lN : L < NM) (l0 : m nNames = some (.ref NM)) (l1 : m nModule = some (.str mod t1)) (l2 : m nTold = some (.str (Str.ofString "done") t2))
    (v1 : valueAt kM mod = none) (E : Value → Shared → Prop) :
    wpAny (model prg w) (callerA.deeper (envLaw fa L)) (exec (ust 4) (envLaw fa L)) (StX h₀ L [] (fun _ f m' _ => f = .next ∧ (∃ t, m' nTold = some (.str (Str.ofString "refused") t)) ∧ ∀ y, y ≠ nTold → m' y = m y) s) E s := by
  obtain ⟨oB, gcB, dcB⟩ := cB
  obtain ⟨q1, q2, q3, ct, tN, gDB⟩ := id bd
  obtain ⟨oMS, gMS, hMS, lMS⟩ := id dM

  have NN : ∀ x ox, s.heap.get? x = some ox → h₀.get? x = none → x ≠ L → News h₀ L s.heap [(L+1+1, oB), (B, instObj 121 DB), (DB, bD w q1 q2 q3 (.int c ct) tN MS), (MS, oMS), (P, oP), (NM, W.listOf #[.str nm t4, .str nm2 t3] cN), (x, ox)] := fun x ox a b c' =>
    news_c F gcB (by omega) (news_c F gB (by omega) (news_c F gDB (by omega) (news_c F gMS (by omega) (news_c F gP (by omega) (news_c F gN lN (news_1 a b c'))))))
  have hlt : L+1+1 < DB ∧ DB < B := by omega
  have i0 : Old h₀ L [] s.heap (L+1+1) := old_of F gcB (by omega) (by simp)
  refine wpAny_mono (lift_x F i0 fun x ox a b c' _ => ust4_2 (PO := fun _ _ => False) (RO := fun _ _ => True) (Qe := fun _ _ => True) (a1 := x) (a2 := x) X T Bl F (NN x ox a b c') dcB hlt ⟨⟨c', b⟩, ⟨c', b⟩, c', b⟩ (fun s' m' F' N' => wpAny_mono (un_2_no (kT := []) (PO := fun _ _ => False) (RO := fun _ _ => True) X T Bl F' (news_cons (news_of N' (.head _)) (news_cons (news_of N' (.tail _ (.head _))) (news_cons (news_of N' (.tail _ (.tail _ (.head _)))) (news_of N' (.tail _ (.tail _ (.tail _ (.tail _ (.head _))))))))) hMS lMS ⟨lt.2.1, lt.2.2.1⟩ lm lnm lnm2 hkM (Nat.zero_le _) ⟨hc.1, by omega⟩ v1) (fun _ _ h => h) fun e s2 h => rz1_mono h fun B g _ => ⟨ox, ox, g, g, trivial⟩) l0 l1 l2)
    (fun f s' h => stx_conv (Q := fun f m' _ => f = .next ∧ (∃ t, m' nTold = some (.str (Str.ofString "refused") t)) ∧ ∀ y, y ≠ nTold → m' y = m y) h i0 (by simp) fun m' ⟨p1, p2⟩ K => ?_) fun _ _ e => e
  rcases p2 with ⟨v, h, _⟩ | ⟨_, p2, p3⟩
  · exact h.elim
  · exact ⟨p1, p2, p3⟩
theorem ust4_0p (F : Fr h₀ L s.heap m) (lt : L+1+1+1+1+1+1 < DB ∧ DB < B ∧ B < MS ∧ MS < TM) (cB : CIs s.heap (L+1+1) (.ref B)) (gB : s.heap.get? B = some (instObj 121 DB)) (bd : BIs w s.heap DB MS c) (dM : DIs w s.heap MS kM)
    (dT : DIs w s.heap TM kT) (hkM : kM.length ≤ 1000) (hkT : kT.length ≤ 1000) (hc : 0 ≤ c ∧ c < 900) (lm : mod.length ≤ 1000) 
    (gN : s.heap.get? NM = some (W.listOf #[] cN)) (lN : L < NM) (l0 : m nNames = some (.ref NM)) (l1 : m nModule = some (.str mod t1)) (l2 : m nTold = some (.str (Str.ofString "done") t2))
    (v1 : valueAt kM mod = some (.ref TM)) (E : Value → Shared → Prop) :
    wpAny (model prg w) (callerA.deeper (envLaw fa L)) (exec (ust 4) (envLaw fa L)) (StX h₀ L [MS, DB, TM] (fun _ f m' h' => f = .next ∧ UnP w DB MS TM c kM mod (cuts kT true (kT.map (·.1))) m m' h') s) E s := by
  obtain ⟨oB, gcB, dcB⟩ := cB
  obtain ⟨q1, q2, q3, ct, tN, gDB⟩ := id bd
  obtain ⟨oMS, gMS, hMS, lMS⟩ := id dM
  obtain ⟨oTM, gTM, hTM, lTM⟩ := id dT
  have NN : ∀ x ox, s.heap.get? x = some ox → h₀.get? x = none → x ≠ L → News h₀ L s.heap [(L+1+1, oB), (B, instObj 121 DB), (DB, bD w q1 q2 q3 (.int c ct) tN MS), (MS, oMS), (TM, oTM), (NM, W.listOf #[] cN), (x, ox)] := fun x ox a b c' =>
    news_c F gcB (by omega) (news_c F gB (by omega) (news_c F gDB (by omega) (news_c F gMS (by omega) (news_c F gTM (by omega) (news_c F gN lN (news_1 a b c'))))))
  have hlt : L+1+1 < DB ∧ DB < B := by omega
  rw [cuts_all (dis_nodup dT)]
  have i0 : Old h₀ L [DB, MS, TM] s.heap (L+1+1) := old_of F gcB (by omega) (by simp; omega)
  refine wpAny_mono (lift_x F i0 fun x ox a b c' d => ust4_0 (Qe := fun _ _ => False) (a1 := x) (a2 := x) X T Bl F (NN x ox a b c') dcB hlt ⟨⟨c', b⟩, ⟨c', b⟩, c', b⟩ (fun s' m' F' N' => un_0_left (C := 50) (PE := PQ x x fun _ _ => False) X T Bl F' N' hMS lMS hTM lTM ⟨lt.2.1, lt.2.2.1, lt.2.2.2⟩ (by simpa using d) lm hkM hkT ⟨hc.1, by omega⟩ v1 (dis_nodup dT)) l0 l1 l2)
    (fun f s' h => stx_conv (Q := fun f m' h' => f = .next ∧ UnP w DB MS TM c kM mod _ m m' h') h i0 (by simp) fun m' ⟨p1, p2⟩ K => ?_) fun _ _ e => e
  rcases p2 with ⟨v, ⟨_, p2, p3⟩, _, p4⟩ | ⟨⟨_, _, _, _, h⟩, _⟩
  · exact ⟨p1, fun _ => ⟨p3, p4⟩, fun h => by simp at h, fun _ => p2, fun h => absurd ⟨rfl, rfl⟩ h⟩
  · exact h.elim
theorem ust4_1p (F : Fr h₀ L s.heap m) (lt : L+1+1+1+1+1+1 < DB ∧ DB < B ∧ B < MS ∧ MS < TM) (cB : CIs s.heap (L+1+1) (.ref B)) (gB : s.heap.get? B = some (instObj 121 DB)) (bd : BIs w s.heap DB MS c) (dM : DIs w s.heap MS kM)
    (dT : DIs w s.heap TM kT) (hkM : kM.length ≤ 1000) (hkT : kT.length ≤ 1000) (hc : 0 ≤ c ∧ c < 900) (lm : mod.length ≤ 1000) (lnm : nm.length ≤ 1000)
    (gN : s.heap.get? NM = some (W.listOf #[.str nm t4] cN)) (lN : L < NM) (l0 : m nNames = some (.ref NM)) (l1 : m nModule = some (.str mod t1)) (l2 : m nTold = some (.str (Str.ofString "done") t2))
    (v1 : valueAt kM mod = some (.ref TM)) (refs : ∀ nm u, valueAt kT nm = some u → ∃ nd : Nat, u = .ref nd) (E : Value → Shared → Prop) :
    wpAny (model prg w) (callerA.deeper (envLaw fa L)) (exec (ust 4) (envLaw fa L)) (StX h₀ L [MS, DB, TM] (fun _ f m' h' => f = .next ∧ UnP w DB MS TM c kM mod (cuts kT true [nm]) m m' h') s) E s := by
  obtain ⟨oB, gcB, dcB⟩ := cB
  obtain ⟨q1, q2, q3, ct, tN, gDB⟩ := id bd
  obtain ⟨oMS, gMS, hMS, lMS⟩ := id dM
  obtain ⟨oTM, gTM, hTM, lTM⟩ := id dT
  have NN : ∀ x ox, s.heap.get? x = some ox → h₀.get? x = none → x ≠ L → News h₀ L s.heap [(L+1+1, oB), (B, instObj 121 DB), (DB, bD w q1 q2 q3 (.int c ct) tN MS), (MS, oMS), (TM, oTM), (NM, W.listOf #[.str nm t4] cN), (x, ox)] := fun x ox a b c' =>
    news_c F gcB (by omega) (news_c F gB (by omega) (news_c F gDB (by omega) (news_c F gMS (by omega) (news_c F gTM (by omega) (news_c F gN lN (news_1 a b c'))))))
  have hlt : L+1+1 < DB ∧ DB < B := by omega
  rw [cuts_1]
  cases w2 : valueAt kT nm with
  | none =>
    rw [show cut (kT, true) nm = (kT, false) by simp [cut, w2]]
    have i0 : Old h₀ L [] s.heap (L+1+1) := old_of F gcB (by omega) (by simp)
    refine wpAny_mono (lift_x F i0 fun x ox a b c' _ => ust4_1 (PO := fun _ _ => False) (RO := fun _ _ => True) (Qe := fun _ _ => True) (a1 := x) (a2 := x) X T Bl F (NN x ox a b c') dcB hlt ⟨⟨c', b⟩, ⟨c', b⟩, c', b⟩ (fun s' m' F' N' => wpAny_mono (un_1_r1 (PO := fun _ _ => False) (RO := fun _ _ => True) X T Bl F' N' hMS lMS hTM lTM ⟨lt.2.1, lt.2.2.1, lt.2.2.2⟩ lm lnm hkM hkT ⟨hc.1, by omega⟩ v1 w2) (fun _ _ h => h) fun e s2 h => rz1_mono h fun B g _ => ⟨ox, ox, g, g, trivial⟩) l0 l1 l2)
      (fun f s' h => stx_conv (Q := fun f m' h' => f = .next ∧ UnP w DB MS TM c kM mod _ m m' h') h i0 (by simp) fun m' ⟨p1, p2⟩ K => ?_) fun _ _ e => e
    rcases p2 with ⟨v, h, _⟩ | ⟨_, p2, p3⟩
    · exact h.elim
    · exact ⟨p1, fun h => by simp at h, fun _ => ⟨bis_up bd fun o g => K _ _ (by show DB ≠ L; omega) (by simp) g, p2, p3⟩, fun h => by simp at h, fun _ => ⟨dis_up dM fun o g => K _ _ (by show MS ≠ L; omega) (by simp) g, dis_up dT fun o g => K _ _ (by show TM ≠ L; omega) (by simp) g⟩⟩
  | some u2 =>
    obtain ⟨nd, rfl⟩ := refs nm u2 w2
    rw [show cut (kT, true) nm = (without kT nm, true) by simp [cut, w2]]
    by_cases ne : without kT nm = []
    · skip
      have i0 : Old h₀ L [TM, MS, DB] s.heap (L+1+1) := old_of F gcB (by omega) (by simp; omega)
      refine wpAny_mono (lift_x F i0 fun x ox a b c' d => ust4_1 (Qe := fun _ _ => False) (a1 := x) (a2 := x) X T Bl F (NN x ox a b c') dcB hlt ⟨⟨c', b⟩, ⟨c', b⟩, c', b⟩ (fun s' m' F' N' => un_1_empty (C := 50) (PE := PQ x x fun _ _ => False) X T Bl F' N' hMS lMS hTM lTM ⟨lt.2.1, lt.2.2.1, lt.2.2.2⟩ (by simpa using d) lm lnm hkM hkT ⟨hc.1, by omega⟩ v1 w2 ne) l0 l1 l2)
        (fun f s' h => stx_conv (Q := fun f m' h' => f = .next ∧ UnP w DB MS TM c kM mod _ m m' h') h i0 (by simp) fun m' ⟨p1, p2⟩ K => ?_) fun _ _ e => e
      rcases p2 with ⟨v, ⟨_, p2, p3⟩, _, p4⟩ | ⟨⟨_, _, _, _, h⟩, _⟩
      · exact ⟨p1, fun _ => ⟨p3, p4⟩, fun h => by simp at h, fun _ => p2, fun h => absurd ⟨rfl, ne⟩ h⟩
      · exact h.elim
    · skip
      have i0 : Old h₀ L [TM, DB] s.heap (L+1+1) := old_of F gcB (by omega) (by simp; omega)
      refine wpAny_mono (lift_x F i0 fun x ox a b c' d => ust4_1 (Qe := fun _ _ => False) (a1 := x) (a2 := x) X T Bl F (NN x ox a b c') dcB hlt ⟨⟨c', b⟩, ⟨c', b⟩, c', b⟩ (fun s' m' F' N' => un_1_left (C := 50) (PE := PQ x x fun _ _ => False) X T Bl F' N' hMS lMS hTM lTM ⟨lt.2.1, lt.2.2.1, lt.2.2.2⟩ (by simpa using d) lm lnm hkM hkT ⟨hc.1, by omega⟩ v1 w2 ne) l0 l1 l2)
        (fun f s' h => stx_conv (Q := fun f m' h' => f = .next ∧ UnP w DB MS TM c kM mod _ m m' h') h i0 (by simp) fun m' ⟨p1, p2⟩ K => ?_) fun _ _ e => e
      rcases p2 with ⟨v, ⟨_, p2, p3⟩, _, p4⟩ | ⟨⟨_, _, _, _, h⟩, _⟩
      · exact ⟨p1, fun _ => ⟨p3, p4⟩, fun h => by simp at h, fun h => absurd h.2 ne, fun _ => ⟨⟨oMS, K _ _ (by show MS ≠ L; omega) (ni2 (by omega) (by omega)) gMS, hMS, lMS⟩, p2⟩⟩
      · exact h.elim
theorem ust4_2p (F : Fr h₀ L s.heap m) (lt : L+1+1+1+1+1+1 < DB ∧ DB < B ∧ B < MS ∧ MS < TM) (cB : CIs s.heap (L+1+1) (.ref B)) (gB : s.heap.get? B = some (instObj 121 DB)) (bd : BIs w s.heap DB MS c) (dM : DIs w s.heap MS kM)
    (dT : DIs w s.heap TM kT) (hkM : kM.length ≤ 1000) (hkT : kT.length ≤ 1000) (hc : 0 ≤ c ∧ c < 900) (lm : mod.length ≤ 1000) (lnm : nm.length ≤ 1000) (lnm2 : nm2.length ≤ 1000)
    (gN : s.heap.get? NM = some (W.listOf #[.str nm t4, .str nm2 t3] cN)) (lN : L < NM) (l0 : m nNames = some (.ref NM)) (l1 : m nModule = some (.str mod t1)) (l2 : m nTold = some (.str (Str.ofString "done") t2))
    (v1 : valueAt kM mod = some (.ref TM)) (refs : ∀ nm u, valueAt kT nm = some u → ∃ nd : Nat, u = .ref nd) (E : Value → Shared → Prop) :
    wpAny (model prg w) (callerA.deeper (envLaw fa L)) (exec (ust 4) (envLaw fa L)) (StX h₀ L [MS, DB, TM] (fun _ f m' h' => f = .next ∧ UnP w DB MS TM c kM mod (cuts kT true [nm, nm2]) m m' h') s) E s := by
  obtain ⟨oB, gcB, dcB⟩ := cB
  obtain ⟨q1, q2, q3, ct, tN, gDB⟩ := id bd
  obtain ⟨oMS, gMS, hMS, lMS⟩ := id dM
  obtain ⟨oTM, gTM, hTM, lTM⟩ := id dT
  have NN : ∀ x ox, s.heap.get? x = some ox → h₀.get? x = none → x ≠ L → News h₀ L s.heap [(L+1+1, oB), (B, instObj 121 DB), (DB, bD w q1 q2 q3 (.int c ct) tN MS), (MS, oMS), (TM, oTM), (NM, W.listOf #[.str nm t4, .str nm2 t3] cN), (x, ox)] := fun x ox a b c' =>
    news_c F gcB (by omega) (news_c F gB (by omega) (news_c F gDB (by omega) (news_c F gMS (by omega) (news_c F gTM (by omega) (news_c F gN lN (news_1 a b c'))))))
  have hlt : L+1+1 < DB ∧ DB < B := by omega
  rw [cuts_2]
  cases w2 : valueAt kT nm with
  | none =>
    rw [show cut (kT, true) nm = (kT, false) by simp [cut, w2], show cut (kT, false) nm2 = (kT, false) by simp [cut]]
    have i0 : Old h₀ L [] s.heap (L+1+1) := old_of F gcB (by omega) (by simp)
    refine wpAny_mono (lift_x F i0 fun x ox a b c' _ => ust4_2 (PO := fun _ _ => False) (RO := fun _ _ => True) (Qe := fun _ _ => True) (a1 := x) (a2 := x) X T Bl F (NN x ox a b c') dcB hlt ⟨⟨c', b⟩, ⟨c', b⟩, c', b⟩ (fun s' m' F' N' => wpAny_mono (un_2_r1 (PO := fun _ _ => False) (RO := fun _ _ => True) X T Bl F' N' hMS lMS hTM lTM ⟨lt.2.1, lt.2.2.1, lt.2.2.2⟩ lm lnm lnm2 hkM hkT ⟨hc.1, by omega⟩ v1 w2) (fun _ _ h => h) fun e s2 h => rz1_mono h fun B g _ => ⟨ox, ox, g, g, trivial⟩) l0 l1 l2)
      (fun f s' h => stx_conv (Q := fun f m' h' => f = .next ∧ UnP w DB MS TM c kM mod _ m m' h') h i0 (by simp) fun m' ⟨p1, p2⟩ K => ?_) fun _ _ e => e
    rcases p2 with ⟨v, h, _⟩ | ⟨_, p2, p3⟩
    · exact h.elim
    · exact ⟨p1, fun h => by simp at h, fun _ => ⟨bis_up bd fun o g => K _ _ (by show DB ≠ L; omega) (by simp) g, p2, p3⟩, fun h => by simp at h, fun _ => ⟨dis_up dM fun o g => K _ _ (by show MS ≠ L; omega) (by simp) g, dis_up dT fun o g => K _ _ (by show TM ≠ L; omega) (by simp) g⟩⟩
  | some u2 =>
    obtain ⟨nd, rfl⟩ := refs nm u2 w2
    rw [show cut (kT, true) nm = (without kT nm, true) by simp [cut, w2]]
    cases w3 : valueAt (without kT nm) nm2 with
    | none =>
      rw [show cut (without kT nm, true) nm2 = (without kT nm, false) by simp [cut, w3]]
      have i0 : Old h₀ L [TM] s.heap (L+1+1) := old_of F gcB (by omega) (by simp; omega)
      have nT : TM ≠ L ∧ h₀.get? TM = none := ((news_c F gTM (by omega) News.nil : News h₀ L s.heap [(TM, oTM)]) _ (.head _)).2
      refine wpAny_mono (lift_x F i0 fun x ox a b c' d => ust4_2 (PO := fun _ _ => False) (RO := fun _ _ => True) (Qe := fun o _ => o.IsDictOf (strKind prg w) (without kT nm)) (a1 := TM) (a2 := x) X T Bl F (NN x ox a b c') dcB hlt ⟨⟨c', b⟩, nT, c', b⟩ (fun s' m' F' N' => wpAny_mono (un_2_r2 (PO := fun _ _ => False) (RO := fun _ _ => True) X T Bl F' N' hMS lMS hTM lTM ⟨lt.2.1, lt.2.2.1, lt.2.2.2⟩ (by simpa using d) lm lnm lnm2 hkM hkT ⟨hc.1, by omega⟩ v1 w2 w3) (fun _ _ h => h) fun e s2 h => rz1_mono h fun B g ⟨o, go, ho, _⟩ => ⟨o, ox, go, g, ho⟩) l0 l1 l2)
        (fun f s' h => stx_conv (Q := fun f m' h' => f = .next ∧ UnP w DB MS TM c kM mod _ m m' h') h i0 (by simp) fun m' ⟨p1, p2⟩ K => ?_) fun _ _ e => e
      rcases p2 with ⟨v, h, _⟩ | ⟨⟨o1, _, g1, _, r1⟩, p2, p3⟩
      · exact h.elim
      · exact ⟨p1, fun h => by simp at h, fun _ => ⟨bis_up bd fun o g => K _ _ (by show DB ≠ L; omega) (ni1 (by omega)) g, p2, p3⟩, fun h => by simp at h, fun _ => ⟨dis_up dM fun o g => K _ _ (by show MS ≠ L; omega) (ni1 (by omega)) g, ⟨o1, g1, r1, lTM⟩⟩⟩
    | some u3 =>
      obtain ⟨nd2, rfl⟩ := refs nm2 u3 (val_without w3).2
      rw [show cut (without kT nm, true) nm2 = (without (without kT nm) nm2, true) by simp [cut, w3]]
      by_cases ne : without (without kT nm) nm2 = []
      · skip
        have i0 : Old h₀ L [TM, MS, DB] s.heap (L+1+1) := old_of F gcB (by omega) (by simp; omega)
        refine wpAny_mono (lift_x F i0 fun x ox a b c' d => ust4_2 (Qe := fun _ _ => False) (a1 := x) (a2 := x) X T Bl F (NN x ox a b c') dcB hlt ⟨⟨c', b⟩, ⟨c', b⟩, c', b⟩ (fun s' m' F' N' => un_2_empty (C := 50) (PE := PQ x x fun _ _ => False) X T Bl F' N' hMS lMS hTM lTM ⟨lt.2.1, lt.2.2.1, lt.2.2.2⟩ (by simpa using d) lm lnm lnm2 hkM hkT ⟨hc.1, by omega⟩ v1 w2 w3 ne) l0 l1 l2)
          (fun f s' h => stx_conv (Q := fun f m' h' => f = .next ∧ UnP w DB MS TM c kM mod _ m m' h') h i0 (by simp) fun m' ⟨p1, p2⟩ K => ?_) fun _ _ e => e
        rcases p2 with ⟨v, ⟨_, p2, p3⟩, _, p4⟩ | ⟨⟨_, _, _, _, h⟩, _⟩
        · exact ⟨p1, fun _ => ⟨p3, p4⟩, fun h => by simp at h, fun _ => p2, fun h => absurd ⟨rfl, ne⟩ h⟩
        · exact h.elim
      · skip
        have i0 : Old h₀ L [TM, DB] s.heap (L+1+1) := old_of F gcB (by omega) (by simp; omega)
        refine wpAny_mono (lift_x F i0 fun x ox a b c' d => ust4_2 (Qe := fun _ _ => False) (a1 := x) (a2 := x) X T Bl F (NN x ox a b c') dcB hlt ⟨⟨c', b⟩, ⟨c', b⟩, c', b⟩ (fun s' m' F' N' => un_2_left (C := 50) (PE := PQ x x fun _ _ => False) X T Bl F' N' hMS lMS hTM lTM ⟨lt.2.1, lt.2.2.1, lt.2.2.2⟩ (by simpa using d) lm lnm lnm2 hkM hkT ⟨hc.1, by omega⟩ v1 w2 w3 ne) l0 l1 l2)
          (fun f s' h => stx_conv (Q := fun f m' h' => f = .next ∧ UnP w DB MS TM c kM mod _ m m' h') h i0 (by simp) fun m' ⟨p1, p2⟩ K => ?_) fun _ _ e => e
        rcases p2 with ⟨v, ⟨_, p2, p3⟩, _, p4⟩ | ⟨⟨_, _, _, _, h⟩, _⟩
        · exact ⟨p1, fun _ => ⟨p3, p4⟩, fun h => by simp at h, fun h => absurd h.2 ne, fun _ => ⟨⟨oMS, K _ _ (by show MS ≠ L; omega) (ni2 (by omega) (by omega)) gMS, hMS, lMS⟩, p2⟩⟩
        · exact h.elim
end
end Mine
namespace Mine
abbrev nHere : Str := Str.ofString "here"
theorem Keeps.tr {L : Addr} {D : List Addr} {h h' h'' : Heap} (x : Keeps L D h h') (y : Keeps L D h' h'') : Keeps L D h h'' := fun a o n m e => y a o n m (x a o n m e)
/-- how a branch of the turn ends -/
def BrPost (w : World) (h₀ : Heap) (fa L f cc B DB MS P I sc : Nat) (dc pm ct : Value) (oc : Obj) (oI : Option Obj) (n c : Int) (m : Str → Option Value) (s : Shared) (fl : Flow) (s' : Shared) : Prop :=
  fl = .next ∧ ∃ m' b U' kM' kP' tt' tv', Like s s' ∧ Fr h₀ L s'.heap m' ∧ Core w fa L f cc B DB MS P I sc dc pm ct oc oI U' n (c + if b then 1 else 0) kM' kP' tt' tv' s'.heap ∧ (∃ t, m' nTold = some (.str (txt b) t)) ∧ (∃ t, m' nDue = some (.str (txt b) t)) ∧ m' nDraw = m nDraw ∧ m' nChanges = m nChanges ∧
    ∀ (a : Nat) o, a = L+1+1+1+1 ∨ a = L+1+1+1+1+1 ∨ a = L+1+1+1+1+1+1 → s.heap.get? a = some o → s'.heap.get? a = some o
section
variable {w : World} {s : Shared} {h₀ : Heap} {mg mb m : Str → Option Value} {loose : List Str} {mean : ExcName → Option Value} {fa L f cc B DB MS P I sc U TB : Nat} {dc pm ct : Value} {oc : Obj} {oI : Option Obj} {n c : Int} {kM kP : List (Str × Value)} {tt tv : Str → List (Str × Value)} {mod : Str} {kV0 : List (Str × Value)}
    (X : (hd.heap_39 w.params).In h₀) (T : Top topProg loose mean mg mb h₀) (Bl : Below callerA h₀ [] h₀)
theorem Core.free_big {h : Heap} (C : Core w fa L f cc B DB MS P I sc dc pm ct oc oI U n c kM kP tt tv h) {y : Nat} (hy : U ≤ y) : Free kM y := fun mod e => by
  obtain ⟨v, hv⟩ := val_some_par C.keys.symm e
  obtain ⟨TM', PT, e1, e2, tb⟩ := C.tabs mod _ v e hv
  cases e1
  have := tb.l1
  omega
include X T Bl
theorem un_rest (F : Fr h₀ L s.heap m) (C : Core w fa L f cc B DB MS P I sc dc pm ct oc oI U n c kM kP tt tv s.heap) (hn : 0 ≤ n ∧ n ≤ 100) (hU : U ≤ TB)
    (cT : CIs s.heap (L+1+1+1+1+1+1) (.ref TB)) (dTB : DIs w s.heap TB kV0) (hV0 : (valueAt kP mod = none ∧ kV0 = []) ∨ (∃ v, valueAt kP mod = some v ∧ kV0 = tv mod))
    {t1 : Tok} (l1 : m nModule = some (.str mod t1)) (told : ∃ t, m nTold = some (.str (Str.ofString "done") t))
    {ks : List Str} {vs : List Value} {cL LI : Nat} (gL : s.heap.get? LI = some (W.listOf vs.toArray cL)) (sv : SV vs ks) (lLI : TB < LI)
    (src : ∀ (s' : Shared) (m' : Str → Option Value), Fr h₀ L s'.heap m' → Keeps L [] s.heap s'.heap → m' nNames = m nNames → m' nHere = m nHere → ∀ x ox, s'.heap.get? x = some ox → h₀.get? x = none → x ≠ L → ∀ E, wpAny (model prg w) (callerA.deeper (envLaw fa L)) (eval (forI (ust 3)) (envLaw fa L)) (St1 h₀ L x ox (fun v m'' _ => v = .ref LI ∧ ∀ y, m'' y = m' y) s') E s')
    (st4 : ∀ (s' : Shared) (m' : Str → Option Value), Fr h₀ L s'.heap m' → Keeps L [TB] s.heap s'.heap → m' nNames = m nNames → m' nModule = m nModule → m' nTold = m nTold → ∀ E,
      (∀ TM : Nat, valueAt kM mod = some (.ref TM) → wpAny (model prg w) (callerA.deeper (envLaw fa L)) (exec (ust 4) (envLaw fa L)) (StX h₀ L [MS, DB, TM] (fun _ f m'' h' => f = .next ∧ UnP w DB MS TM c kM mod (cuts (tt mod) true ks) m' m'' h') s') E s') ∧
      (valueAt kM mod = none → wpAny (model prg w) (callerA.deeper (envLaw fa L)) (exec (ust 4) (envLaw fa L)) (StX h₀ L [] (fun _ f m'' _ => f = .next ∧ (∃ t, m'' nTold = some (.str (Str.ofString "refused") t)) ∧ ∀ y, y ≠ nTold → m'' y = m' y) s') E s')) (E : Value → Shared → Prop) :
    wpAny (model prg w) (callerA.deeper (envLaw fa L)) (execs [ust 2, ust 3, ust 4, ust 5, ust 6] (envLaw fa L)) (BrPost w h₀ fa L f cc B DB MS P I sc dc pm ct oc oI (n + 2) c m s) E s := by
  have lt := C.lt
  obtain ⟨oP, gcP, dcP⟩ := C.cP
  obtain ⟨oT, gcT, dcT⟩ := cT
  have lP : kP.length ≤ 1000 := by have := C.lenP; omega
  obtain ⟨oPT, gPT, hPT, lPT⟩ := C.dP
  have i0 : Old h₀ L [] s.heap (L+1+1+1) := old_of F gcP (by omega) (by simp)
  -- ust 2
  have hlenV : kV0.length ≤ 1000 := by
    rcases hV0 with ⟨_, rfl⟩ | ⟨v, hv, rfl⟩
    · simp
    · obtain ⟨u, hu⟩ := val_some_par C.keys hv
      obtain ⟨TM, PT, _, _, tb⟩ := C.tabs mod u v hu hv
      have := tb.len
      have := len_par tb.keys
      omega
  have st2 : wpAny (model prg w) (callerA.deeper (envLaw fa L)) (exec (ust 2) (envLaw fa L)) (StX h₀ L [] (fun _ f m' _ => f = .next ∧ (∃ t, m' nDue = some (.str (txt (valueAt kP mod).isSome) t)) ∧ ∀ y, y ≠ nDue → m' y = m y) s) E s := by
    have NN : ∀ x ox, s.heap.get? x = some ox → h₀.get? x = none → x ≠ L → News h₀ L s.heap [(L+1+1+1, oP), (P, oPT), (x, ox)] := fun x ox a b c' => news_c F gcP (by omega) (news_c F gPT (by omega) (news_1 a b c'))
    cases hv : valueAt kP mod with
    | none => exact lift_x F i0 fun x ox a b c' _ => ust2_none X T Bl F (NN x ox a b c') dcP hPT lPT lP hv l1
    | some v =>
      obtain ⟨u, hu⟩ := val_some_par C.keys hv
      obtain ⟨TM, PT, _, rfl, tb⟩ := C.tabs mod u v hu hv
      exact lift_x F i0 fun x ox a b c' _ => ust2_some X T Bl F (NN x ox a b c') dcP hPT lPT lP hv l1
  refine seq st2 i0 (fun _ _ _ _ h => h.1) fun s₁ m₁ lk₁ F₁ K₁ hP₁ => ?_
  obtain ⟨_, due₁, hm₁⟩ := hP₁ _ i0
  have g1 : ∀ (b : Nat) o, b ≠ L → s.heap.get? b = some o → s₁.heap.get? b = some o := fun b o n e => K₁ b o n (by simp) e
  -- ust 3
  refine seq (ust3_loop X T Bl F₁ (LI := LI) (TB := TB) (ks := ks) (kT := kV0) (d0 := (valueAt kP mod).isSome) (fun x ox a b c' E => src s₁ m₁ F₁ K₁ (hm₁ _ (by decide +kernel)) (hm₁ _ (by decide +kernel)) x ox a b c' E) (g1 _ _ (by omega) gL) (by omega) sv (by omega) ⟨oT, g1 _ _ (by omega) gcT, dcT⟩ (dis_up dTB fun o e => g1 _ _ (by omega) e) (by omega) hlenV due₁ _)
    (old_of F₁ (g1 _ _ (by omega) gcP) (by omega) (ni1 (by omega)) : Old h₀ L [TB] s₁.heap (L+1+1+1)) (fun _ _ _ _ h => h.1) fun s₂ m₂ lk₂ F₂ K₂ hP₂ => ?_
  obtain ⟨_, dTB₂, due₂, hm₂⟩ := hP₂ _ (old_of F₁ (g1 _ _ (by omega) gcP) (by omega) (ni1 (by omega)))
  have K₀₂ : Keeps L [TB] s.heap s₂.heap := (K₁.mono (by simp)).tr K₂
  have g2 : ∀ (b : Nat) o, b ≠ L → b ≠ TB → s.heap.get? b = some o → s₂.heap.get? b = some o := fun b o n n' e => K₀₂ b o n (ni1 n') e
  have e2 : ∀ y, y ≠ nName ∧ y ≠ nDue → m₂ y = m y := fun y hy => (hm₂ y hy).trans (hm₁ y hy.2)
  have S4 := st4 s₂ m₂ F₂ K₀₂ (e2 _ (by decide +kernel)) (e2 _ (by decide +kernel)) (e2 _ (by decide +kernel))
  rcases hV0 with ⟨hv, rfl⟩ | ⟨v, hv, rfl⟩
  · -- no such module
    have hu := (val_par C.keys).mpr hv
    rw [hv] at due₂
    simp only [Option.isSome_none, cuts_false] at due₂
    have i2 : Old h₀ L [] s₂.heap (L+1+1+1) := old_of F₂ (g2 _ _ (by omega) (by omega) gcP) (by omega) (by simp)
    refine seq ((S4 _).2 hu) i2 (fun _ _ _ _ h => h.1) fun s₃ m₃ lk₃ F₃ K₃ hP₃ => ?_
    obtain ⟨_, told₃, hm₃⟩ := hP₃ _ i2
    have g3 : ∀ (b : Nat) o, b ≠ L → b ≠ TB → s.heap.get? b = some o → s₃.heap.get? b = some o := fun b o n n' e => K₃ b o n (by simp) (g2 b o n n' e)
    have i3 : Old h₀ L [] s₃.heap (L+1+1+1) := old_of F₃ (g3 _ _ (by omega) (by omega) gcP) (by omega) (by simp)
    have e3 : ∀ y, y ≠ nName ∧ y ≠ nDue ∧ y ≠ nTold → m₃ y = m y := fun y hy => (hm₃ y hy.2.2).trans (e2 y ⟨hy.1, hy.2.1⟩)
    have due₃ : ∃ t, m₃ nDue = some (.str (Str.ofString "refused") t) := due₂.imp fun t h => (hm₃ _ (by decide +kernel)).trans h
    have N3 : ∀ x ox, s₃.heap.get? x = some ox → h₀.get? x = none → x ≠ L → News h₀ L s₃.heap [(L+1+1+1, oP), (L+1+1+1+1+1+1, oT), (P, oPT), (x, ox)] := fun x ox a b c' => news_c F₃ (g3 _ _ (by omega) (by omega) gcP) (by omega) (news_c F₃ (g3 _ _ (by omega) (by omega) gcT) (by omega) (news_c F₃ (g3 _ _ (by omega) (by omega) gPT) (by omega) (news_1 a b c')))
    refine seq (lift_x F₃ i3 fun x ox a b c' _ => ust5_none X T Bl F₃ (N3 x ox a b c') dcP dcT hPT lPT lP hv ((e3 _ (by decide +kernel)).trans l1)) i3 (fun _ _ _ _ h => h.1) fun s₄ m₄ lk₄ F₄ K₄ hP₄ => ?_
    obtain ⟨_, hm₄⟩ := hP₄ _ i3
    have g4 : ∀ (b : Nat) o, b ≠ L → b ≠ TB → s.heap.get? b = some o → s₄.heap.get? b = some o := fun b o n n' e => K₄ b o n (by simp) (g3 b o n n' e)
    have i4 : Old h₀ L [] s₄.heap (L+1+1+1) := old_of F₄ (g4 _ _ (by omega) (by omega) gcP) (by omega) (by simp)
    have N4 : ∀ x ox, s₄.heap.get? x = some ox → h₀.get? x = none → x ≠ L → News h₀ L s₄.heap [(L+1+1+1, oP), (L+1+1+1+1+1+1, oT), (P, oPT), (x, ox)] := fun x ox a b c' => news_c F₄ (g4 _ _ (by omega) (by omega) gcP) (by omega) (news_c F₄ (g4 _ _ (by omega) (by omega) gcT) (by omega) (news_c F₄ (g4 _ _ (by omega) (by omega) gPT) (by omega) (news_1 a b c')))
    obtain ⟨td, due₃⟩ := due₃
    refine last (lift_x F₄ i4 fun x ox a b c' _ => ust6_ref X T Bl F₄ (N4 x ox a b c') dcP dcT hPT lPT lP ((hm₄ _).trans due₃)) i4 (fun _ _ _ _ h => h.1) fun s₅ m₅ lk₅ F₅ K₅ hP₅ => ?_
    obtain ⟨_, hm₅⟩ := hP₅ _ i4
    have K : Keeps L [TB] s.heap s₅.heap := fun b o n hd e => K₅ b o n (by simp) (g4 b o n (by simpa using hd) e)
    refine ⟨rfl, m₅, false, U, kM, kP, tt, tv, (((lk₁.trans lk₂).trans lk₃).trans lk₄).trans lk₅, F₅, ?_, ?_, ⟨td, (hm₅ _).trans ((hm₄ _).trans due₃)⟩, ?_, ?_, fun a o ha e => K _ _ (by show a ≠ L; omega) (ni1 (by omega)) e⟩
    · have := (C.keep K (fun d hd => by rw [List.mem_singleton.mp hd]; exact .inr (.inr (.inr hU)))).raise (Nat.le_refl _) (by omega : n ≤ n + 2)
      simpa using this
    · obtain ⟨t, h⟩ := told₃; exact ⟨t, (hm₅ _).trans ((hm₄ _).trans h)⟩
    · exact (hm₅ _).trans ((hm₄ _).trans (e3 _ (by decide +kernel)))
    · exact (hm₅ _).trans ((hm₄ _).trans (e3 _ (by decide +kernel)))
  · -- the module is there
    obtain ⟨u, hu⟩ := val_some_par C.keys hv
    obtain ⟨TM, PT, rfl, rfl, tb⟩ := C.tabs mod u v hu hv
    have l1T := tb.l1
    rw [hv] at due₂ dTB₂
    simp only [Option.isSome_some] at due₂ dTB₂
    have par := cuts_par (d := true) (ks := ks) tb.keys
    have i2 : Old h₀ L [MS, DB, TM] s₂.heap (L+1+1+1) := old_of F₂ (g2 _ _ (by omega) (by omega) gcP) (by omega) (ni3 (by omega) (by omega) (by omega))
    refine seq ((S4 _).1 TM hu) i2 (fun _ _ _ _ h => h.1) fun s₃ m₃ lk₃ F₃ K₃ hP₃ => ?_
    obtain ⟨_, un⟩ := hP₃ _ i2
    have k3 : ∀ (b : Nat) o, b ≠ L → b ≠ MS → b ≠ DB → b ≠ TM → s₂.heap.get? b = some o → s₃.heap.get? b = some o := fun b o n a1 a2 a3 e => K₃ b o n (ni3 a1 a2 a3) e
    have g3 : ∀ (b : Nat) o, b ≠ L → b ≠ TB → b ≠ MS → b ≠ DB → b ≠ TM → s.heap.get? b = some o → s₃.heap.get? b = some o := fun b o n n' a1 a2 a3 e => k3 b o n a1 a2 a3 (g2 b o n n' e)
    have dTB₃ : DIs w s₃.heap TB (cuts (tv mod) true ks).1 := dis_up dTB₂ fun o e => k3 _ _ (by omega) (by omega) (by omega) (by omega) e
    have e3' : ∀ y, y ≠ nTold → m₃ y = m₂ y := fun y hy => by
      cases hb : (cuts (tt mod) true ks).2 with
      | true => exact (un.1 hb).2 y
      | false => exact (un.2.1 hb).2.2 y hy
    have told₃ : ∃ t, m₃ nTold = some (.str (txt (cuts (tt mod) true ks).2) t) := by
      cases hb : (cuts (tt mod) true ks).2 with
      | true =>
        obtain ⟨t, h⟩ := told
        exact ⟨t, ((un.1 hb).2 _).trans ((e2 _ (by decide +kernel)).trans h)⟩
      | false => exact (un.2.1 hb).2.1
    have bd₃ : BIs w s₃.heap DB MS (c + if (cuts (tt mod) true ks).2 then 1 else 0) := by
      cases hb : (cuts (tt mod) true ks).2 with
      | true => simpa using (un.1 hb).1
      | false => simpa using (un.2.1 hb).1
    have e3 : ∀ y, y ≠ nName ∧ y ≠ nDue ∧ y ≠ nTold → m₃ y = m y := fun y hy => (e3' y hy.2.2).trans (e2 y ⟨hy.1, hy.2.1⟩)
    have due₃ : ∃ t, m₃ nDue = some (.str (txt (cuts (tt mod) true ks).2) t) := due₂.imp fun t h => (e3' _ (by decide +kernel)).trans (by rw [par.2]; exact h)
    have i3 : Old h₀ L [P] s₃.heap (L+1+1+1) := old_of F₃ (g3 _ _ (by omega) (by omega) (by omega) (by omega) (by omega) gcP) (by omega) (ni1 (by omega))
    have N3 : ∀ x ox, s₃.heap.get? x = some ox → h₀.get? x = none → x ≠ L → News h₀ L s₃.heap [(L+1+1+1, oP), (L+1+1+1+1+1+1, oT), (P, oPT), (x, ox)] := fun x ox a b c' => news_c F₃ (g3 _ _ (by omega) (by omega) (by omega) (by omega) (by omega) gcP) (by omega) (news_c F₃ (g3 _ _ (by omega) (by omega) (by omega) (by omega) (by omega) gcT) (by omega) (news_c F₃ (g3 _ _ (by omega) (by omega) (by omega) (by omega) (by omega) gPT) (by omega) (news_1 a b c')))
    refine seq (lift_x F₃ i3 fun x ox a b c' d => ust5_some X T Bl F₃ (N3 x ox a b c') dcP dcT hPT lPT lP hv (by omega) (by simpa using d) ((e3 _ (by decide +kernel)).trans l1)) i3 (fun _ _ _ _ h => h.1) fun s₄ m₄ lk₄ F₄ K₄ hP₄ => ?_
    obtain ⟨_, hm₄, dP₄⟩ := hP₄ _ i3
    have k4 : ∀ (b : Nat) o, b ≠ L → b ≠ P → s₃.heap.get? b = some o → s₄.heap.get? b = some o := fun b o n a1 e => K₄ b o n (ni1 a1) e
    have g4 : ∀ (b : Nat) o, b ≠ L → b ≠ TB → b ≠ MS → b ≠ DB → b ≠ TM → b ≠ P → s.heap.get? b = some o → s₄.heap.get? b = some o := fun b o n n' a1 a2 a3 a4 e => k4 b o n a4 (g3 b o n n' a1 a2 a3 e)
    have dTB₄ : DIs w s₄.heap TB (cuts (tv mod) true ks).1 := dis_up dTB₃ fun o e => k4 _ _ (by omega) (by omega) e
    obtain ⟨oTB, gTB, hTB, lTB⟩ := dTB₄
    obtain ⟨oPT', gPT', hPT', lPT'⟩ := dP₄
    have lS : (stored kP mod (.ref TB)).length ≤ kP.length + 1 := stored_length_le ..
    have lS' : (stored kP mod (.ref TB)).length ≤ kP.length := by
      have hs : kP.any (fun kv => kv.1 = mod) = true := by
        have hm : mod ∈ kP.map (·.1) := Decidable.byContradiction fun q => by rw [val_none_iff.mpr q] at hv; cases hv
        obtain ⟨p, hp, e⟩ := List.mem_map.mp hm
        exact List.any_eq_true.mpr ⟨p, hp, by simpa using e⟩
      unfold stored
      rw [if_pos hs, List.length_map]
      exact Nat.le_refl _
    have lV : (cuts (tv mod) true ks).1.length ≤ 1000 := Nat.le_trans cuts_len hlenV
    have N4 : ∀ x ox, s₄.heap.get? x = some ox → h₀.get? x = none → x ≠ L → News h₀ L s₄.heap [(L+1+1+1, oP), (L+1+1+1+1+1+1, oT), (P, oPT'), (TB, oTB), (x, ox)] := fun x ox a b c' => news_c F₄ (g4 _ _ (by omega) (by omega) (by omega) (by omega) (by omega) (by omega) gcP) (by omega) (news_c F₄ (g4 _ _ (by omega) (by omega) (by omega) (by omega) (by omega) (by omega) gcT) (by omega) (news_c F₄ gPT' (by omega) (news_c F₄ gTB (by omega) (news_1 a b c'))))
    have l1₄ := (hm₄ nModule).trans ((e3 _ (by decide +kernel)).trans l1)
    obtain ⟨td, due₃⟩ := due₃
    have due₄ := (hm₄ nDue).trans due₃
    -- the end, from what ust 6 leaves
    have fin : ∀ (s₅ : Shared) (m₅ : Str → Option Value) (kP' : List (Str × Value)) (gone : Bool), Like s₄ s₅ → Fr h₀ L s₅.heap m₅ → Keeps L [P] s₄.heap s₅.heap → (∀ y, m₅ y = m₄ y) → DIs w s₅.heap P kP' →
        (gone = true → (cuts (tt mod) true ks).2 = true ∧ (cuts (tt mod) true ks).1 = [] ∧ kP' = without (stored kP mod (.ref TB)) mod) → (gone = false → ¬ ((cuts (tt mod) true ks).2 = true ∧ (cuts (tt mod) true ks).1 = []) ∧ kP' = stored kP mod (.ref TB)) →
        BrPost w h₀ fa L f cc B DB MS P I sc dc pm ct oc oI (n + 2) c m s .next s₅ := by
      intro s₅ m₅ kP' gone lk₅ F₅ K₅ hm₅ dP₅ hg hng
      have k5 : ∀ (b : Nat) o, b ≠ L → b ≠ P → s₃.heap.get? b = some o → s₅.heap.get? b = some o := fun b o n a1 e => K₅ b o n (ni1 a1) (k4 b o n a1 e)
      have g5 : ∀ (b : Nat) o, b ≠ L → b ≠ TB → b ≠ MS → b ≠ DB → b ≠ TM → b ≠ P → s.heap.get? b = some o → s₅.heap.get? b = some o := fun b o n n' a1 a2 a3 a4 e => K₅ b o n (ni1 a4) (g4 b o n n' a1 a2 a3 a4 e)
      have K : Keeps L [MS, DB, TM, TB, P] s.heap s₅.heap := fun b o n hd e => by
        simp only [List.mem_cons, List.not_mem_nil, or_false, not_or] at hd
        exact g5 b o n hd.2.2.2.1 hd.1 hd.2.1 hd.2.2.1 hd.2.2.2.2 e
      have hD : ∀ d ∈ [MS, DB, TM, TB, P], d = L+1+1+1+1 ∨ d = L+1+1+1+1+1 ∨ d = L+1+1+1+1+1+1 ∨ d = MS ∨ d = DB ∨ d = P ∨ valueAt kM mod = some (.ref d) ∨ U ≤ d := fun d hd => by
        simp only [List.mem_cons, List.not_mem_nil, or_false] at hd
        rcases hd with rfl | rfl | rfl | rfl | rfl
        · exact .inr (.inr (.inr (.inl rfl)))
        · exact .inr (.inr (.inr (.inr (.inl rfl))))
        · exact .inr (.inr (.inr (.inr (.inr (.inr (.inl hu))))))
        · exact .inr (.inr (.inr (.inr (.inr (.inr (.inr hU))))))
        · exact .inr (.inr (.inr (.inr (.inr (.inl rfl)))))
      have e5 : ∀ y, y ≠ nName ∧ y ≠ nDue ∧ y ≠ nTold → m₅ y = m y := fun y hy => (hm₅ y).trans ((hm₄ y).trans (e3 y hy))
      have bd₅ : BIs w s₅.heap DB MS (c + if (cuts (tt mod) true ks).2 then 1 else 0) := bis_up bd₃ fun o e => k5 _ _ (by omega) (by omega) e
      have out : ∀ U' kM' tt' tv', Core w fa L f cc B DB MS P I sc dc pm ct oc oI U' (n + 2) (c + if (cuts (tt mod) true ks).2 then 1 else 0) kM' kP' tt' tv' s₅.heap → BrPost w h₀ fa L f cc B DB MS P I sc dc pm ct oc oI (n + 2) c m s .next s₅ := fun U' kM' tt' tv' C' => by
        obtain ⟨tt3, told₃⟩ := told₃
        exact ⟨rfl, m₅, _, U', kM', kP', tt', tv', (((lk₁.trans lk₂).trans lk₃).trans lk₄).trans lk₅, F₅, C', ⟨tt3, (hm₅ _).trans ((hm₄ _).trans told₃)⟩, ⟨td, (hm₅ _).trans due₄⟩, e5 _ (by decide +kernel), e5 _ (by decide +kernel),
          fun a o ha e => g5 _ _ (by omega) (by omega) (by omega) (by omega) (by omega) (by omega) e⟩
      cases gone with
      | true =>
        obtain ⟨b1, b2, rfl⟩ := hg rfl
        refine out U _ tt tv (C.del K hD (Nat.le_refl _) (by omega) (dis_up (un.2.2.1 ⟨b1, b2⟩) fun o e => k5 _ _ (by omega) (by omega) e) dP₅ ?_ (fun mod' v' h => ?_) bd₅)
        · have hk : (stored kP mod (.ref TB)).map (·.1) = kP.map (·.1) := by
            have hs : kP.any (fun kv => kv.1 = mod) = true := by
              have hm : mod ∈ kP.map (·.1) := Decidable.byContradiction fun q => by rw [val_none_iff.mpr q] at hv; cases hv
              obtain ⟨p, hp, e⟩ := List.mem_map.mp hm
              exact List.any_eq_true.mpr ⟨p, hp, by simpa using e⟩
            unfold stored
            rw [if_pos hs, List.map_map]
            refine List.map_congr_left fun p _ => ?_
            by_cases z : p.1 = mod
            · simp [z]
            · simp [z]
          exact keys_without hk mod
        · obtain ⟨q, h⟩ := val_without h
          rcases val_stored h with ⟨q', _⟩ | ⟨_, h⟩
          · exact absurd q' q
          · exact ⟨q, h⟩
      | false =>
        obtain ⟨b1, rfl⟩ := hng rfl
        obtain ⟨dM₃, dT₃⟩ := un.2.2.2 b1
        refine out (TB + 1) kM _ _ (C.set K hD (by omega) (by omega) (.inl ⟨rfl, hu⟩) (dis_up dM₃ fun o e => k5 _ _ (by omega) (by omega) e) dP₅ bd₅ (by have := C.lenP; omega) (kT' := (cuts (tt mod) true ks).1) (kV' := (cuts (tv mod) true ks).1) ?_)
        refine ⟨⟨l1T.1, by omega⟩, ⟨by omega, by omega, C.free_big hU⟩, dis_up dT₃ fun o e => k5 _ _ (by omega) (by omega) e, dis_up dTB₃ fun o e => k5 _ _ (by omega) (by omega) e, par.1, ?_, fun nm u h => tb.short nm u (cuts_val h), fun nm a b ha hb => ?_⟩
        · have := cuts_len (kT := tt mod) (d := true) (ks := ks)
          have := tb.len
          omega
        · refine (tb.ents nm a b (cuts_val ha) (cuts_val hb)).up (by omega) fun y o g p1 p2 p3 => ⟨g5 y o (by omega) (by omega) (by omega) (by omega) (fun e => p3 mod (e ▸ hu)) (by omega) g, by omega, p3⟩
    cases hb : (cuts (tt mod) true ks).2 with
    | false =>
      rw [hb] at due₄
      have i4 : Old h₀ L [] s₄.heap (L+1+1+1) := old_of F₄ (g4 _ _ (by omega) (by omega) (by omega) (by omega) (by omega) (by omega) gcP) (by omega) (by simp)
      have N4' : ∀ x ox, s₄.heap.get? x = some ox → h₀.get? x = none → x ≠ L → News h₀ L s₄.heap [(L+1+1+1, oP), (L+1+1+1+1+1+1, oT), (P, oPT'), (x, ox)] := fun x ox a b c' => news_c F₄ (g4 _ _ (by omega) (by omega) (by omega) (by omega) (by omega) (by omega) gcP) (by omega) (news_c F₄ (g4 _ _ (by omega) (by omega) (by omega) (by omega) (by omega) (by omega) gcT) (by omega) (news_c F₄ gPT' (by omega) (news_1 a b c')))
      refine last (lift_x F₄ i4 fun x ox a b c' _ => ust6_ref X T Bl F₄ (N4' x ox a b c') dcP dcT hPT' lPT' (by omega) due₄) i4 (fun _ _ _ _ h => h.1) fun s₅ m₅ lk₅ F₅ K₅ hP₅ => ?_
      obtain ⟨_, hm₅⟩ := hP₅ _ i4
      exact fin s₅ m₅ _ false lk₅ F₅ (K₅.mono (by simp)) hm₅ ⟨oPT', K₅ _ _ (by show P ≠ L; omega) (by simp) gPT', hPT', lPT'⟩ (fun h => by cases h) fun _ => ⟨fun h => (by rw [hb] at h; cases h.1), rfl⟩
    | true =>
      rw [hb] at due₄
      by_cases ne : (cuts (tv mod) true ks).1 = []
      · have neT : (cuts (tt mod) true ks).1 = [] := List.eq_nil_of_length_eq_zero (by rw [len_par par.1, ne]; rfl)
        have i4 : Old h₀ L [P] s₄.heap (L+1+1+1) := old_of F₄ (g4 _ _ (by omega) (by omega) (by omega) (by omega) (by omega) (by omega) gcP) (by omega) (ni1 (by omega))
        refine last (lift_x F₄ i4 fun x ox a b c' d => ust6_pop X T Bl F₄ (N4 x ox a b c') dcP dcT hPT' lPT' (by omega) hTB lTB lV ne (val_self _ _ _) (by omega) (by simpa using d) l1₄ due₄) i4 (fun _ _ _ _ h => h.1) fun s₅ m₅ lk₅ F₅ K₅ hP₅ => ?_
        obtain ⟨_, hm₅, dP₅⟩ := hP₅ _ i4
        exact fin s₅ m₅ _ true lk₅ F₅ K₅ hm₅ dP₅ (fun _ => ⟨hb, neT, rfl⟩) fun h => by cases h
      · have i4 : Old h₀ L [] s₄.heap (L+1+1+1) := old_of F₄ (g4 _ _ (by omega) (by omega) (by omega) (by omega) (by omega) (by omega) gcP) (by omega) (by simp)
        refine last (lift_x F₄ i4 fun x ox a b c' _ => ust6_left X T Bl F₄ (N4 x ox a b c') dcP dcT hPT' lPT' (by omega) hTB lTB lV ne (by omega) l1₄ due₄) i4 (fun _ _ _ _ h => h.1) fun s₅ m₅ lk₅ F₅ K₅ hP₅ => ?_
        obtain ⟨_, hm₅⟩ := hP₅ _ i4
        refine fin s₅ m₅ _ false lk₅ F₅ (K₅.mono (by simp)) hm₅ ⟨oPT', K₅ _ _ (by show P ≠ L; omega) (by simp) gPT', hPT', lPT'⟩ (fun h => by cases h) fun _ => ⟨fun h => ne ?_, rfl⟩
        exact List.eq_nil_of_length_eq_zero (by rw [← len_par par.1, h.2]; rfl)
end
end Mine
namespace Mine
theorem BrPost.pre {w : World} {h₀ : Heap} {fa L f cc B DB MS P I sc : Nat} {dc pm ct : Value} {oc : Obj} {oI : Option Obj} {n c : Int} {m m₂ : Str → Option Value} {s s₂ : Shared} {fl : Flow} {s' : Shared} (x : BrPost w h₀ fa L f cc B DB MS P I sc dc pm ct oc oI n c m₂ s₂ fl s') (lk : Like s s₂) (h1 : m₂ nDraw = m nDraw) (h2 : m₂ nChanges = m nChanges)
    (k : ∀ (a : Nat) o, a = L+1+1+1+1 ∨ a = L+1+1+1+1+1 ∨ a = L+1+1+1+1+1+1 → s.heap.get? a = some o → s₂.heap.get? a = some o) : BrPost w h₀ fa L f cc B DB MS P I sc dc pm ct oc oI n c m s fl s' := by
  obtain ⟨e, m', b, U', kM', kP', tt', tv', lk', F', C', t1, t2, d1, d2, kk⟩ := x
  exact ⟨e, m', b, U', kM', kP', tt', tv', lk.trans lk', F', C', t1, t2, d1.trans h1, d2.trans h2, fun a o ha e => kk a o ha (k a o ha e)⟩
section
variable {w : World} {s : Shared} {h₀ : Heap} {mg mb m : Str → Option Value} {loose : List Str} {mean : ExcName → Option Value} {fa L f cc B DB MS P I sc U TB : Nat} {dc pm ct : Value} {oc : Obj} {oI : Option Obj} {n c dr : Int} {kM kP : List (Str × Value)} {tt tv : Str → List (Str × Value)} {mod : Str} {kV0 : List (Str × Value)}
    (X : (hd.heap_39 w.params).In h₀) (T : Top topProg loose mean mg mb h₀) (Bl : Below callerA h₀ [] h₀)
include X T Bl
theorem un_branch (F : Fr h₀ L s.heap m) (C : Core w fa L f cc B DB MS P I sc dc pm ct oc oI U n c kM kP tt tv s.heap) (hn : 0 ≤ n ∧ n ≤ 100) (hc : 0 ≤ c ∧ c < 900) (hU : U ≤ TB) (lm : mod.length ≤ 1000)
    {t0 : Tok} (cD : CIs s.heap (L+1+1+1+1+1) (.int dr t0)) (cT : CIs s.heap (L+1+1+1+1+1+1) (.ref TB)) (dTB : DIs w s.heap TB kV0) (hV0 : (valueAt kP mod = none ∧ kV0 = []) ∨ (∃ v, valueAt kP mod = some v ∧ kV0 = tv mod))
    {t1 : Tok} (l1 : m nModule = some (.str mod t1)) {t2 : Tok} (told : m nTold = some (.str (Str.ofString "done") t2)) (E : Value → Shared → Prop) :
    wpAny (model prg w) (callerA.deeper (envLaw fa L)) (execs (ifE (tst 3)) (envLaw fa L)) (BrPost w h₀ fa L f cc B DB MS P I sc dc pm ct oc oI (n + 2) c m s) E s := by
  have eB : ifE (tst 3) = [ust 0, ust 1, ust 2, ust 3, ust 4, ust 5, ust 6] := by with_unfolding_all rfl
  have lt := C.lt
  obtain ⟨oT, gcT, dcT⟩ := id cT
  obtain ⟨oD, gcD, dcD⟩ := id cD
  obtain ⟨oTB, gTB, hTB, lTB⟩ := id dTB
  have hlenV : kV0.length ≤ 100 := by
    rcases hV0 with ⟨_, rfl⟩ | ⟨v, hv, rfl⟩
    · simp
    · obtain ⟨u, hu⟩ := val_some_par C.keys hv
      obtain ⟨TM, PT, _, _, tb⟩ := C.tabs mod u v hu hv
      have := tb.len
      have := len_par tb.keys
      omega
  have short : ∀ nm, nm ∈ kV0.map (·.1) → nm.length ≤ 1000 := fun nm hm => by
    rcases hV0 with ⟨_, rfl⟩ | ⟨v, hv, rfl⟩
    · simp at hm
    · obtain ⟨u, hu⟩ := val_some_par C.keys hv
      obtain ⟨TM, PT, _, _, tb⟩ := C.tabs mod u v hu hv
      rw [← tb.keys] at hm
      cases q : valueAt (tt mod) nm with
      | none => exact absurd hm (val_none_iff.mp q)
      | some u => exact tb.short nm u q
  rw [eB]
  -- ust 0
  have iT : Old h₀ L [] s.heap TB := old_of F gTB (by omega) (by simp)
  refine seq (lift_x F iT fun x ox a b c' _ => ust0 X T Bl F (news_c F gcT (by omega) (news_c F gTB (by omega) (news_1 a b c'))) dcT hTB lTB (by omega)) iT (fun _ _ _ _ h => h.1) fun s₁ m₁ lk₁ F₁ K₁ hP₁ => ?_
  obtain ⟨_, hm₁, LH, hh, lLH, cL, vs, sv, gLH⟩ := hP₁ _ iT
  have g1 : ∀ (b : Nat) o, b ≠ L → s.heap.get? b = some o → s₁.heap.get? b = some o := fun b o n e => K₁ b o n (by simp) e
  have i1 : Old h₀ L [] s₁.heap LH := old_of F₁ gLH (by omega) (by simp)
  -- ust 1
  have st1 : wpAny (model prg w) (callerA.deeper (envLaw fa L)) (exec (ust 1) (envLaw fa L)) (StX h₀ L [] (fun x f m' h' => f = .next ∧ (∀ y, y ≠ nNames → m' y = m₁ y) ∧ ∃ NM : Nat, m' nNames = some (.ref NM) ∧ x < NM ∧ ((∃ k, h'.get? NM = some (W.listOf #[] k)) ∨ (∃ k nm t, h'.get? NM = some (W.listOf #[.str nm t] k) ∧ nm.length ≤ 1000) ∨ ∃ k nm nm2 t t', h'.get? NM = some (W.listOf #[.str nm t, .str nm2 t'] k) ∧ nm.length ≤ 1000 ∧ nm2.length ≤ 1000)) s₁) E s₁ := by
    have s1 : (Str.ofString "one").length ≤ 1000 := by decide +kernel
    have s2 : (Str.ofString "two").length ≤ 1000 := by decide +kernel
    have s3 : (Str.ofString "none").length ≤ 1000 := by decide +kernel
    cases hk : kV0 with
    | nil =>
      rw [hk] at sv
      have : vs = [] := List.eq_nil_of_length_eq_zero (by rw [sv.1]; rfl)
      subst this
      refine wpAny_mono (lift_x F₁ i1 fun x ox a b c' _ => ust1_e X T Bl F₁ (news_c F₁ (g1 _ _ (by omega) gcD) (by omega) (news_c F₁ gLH (by omega) (news_1 a b c'))) dcD (by omega) hh) (fun fl s' h => ?_) fun _ _ e => e
      obtain ⟨m', lk, F', K', hp⟩ := h
      refine ⟨m', lk, F', K', fun x hx => ?_⟩
      obtain ⟨e, hm, NM, a1, a2, a3⟩ := hp x hx
      refine ⟨e, hm, NM, a1, a2, ?_⟩
      rcases a3 with ⟨k, g⟩ | ⟨k, u0, g⟩ | ⟨k, u0, g⟩ | ⟨k, u0, u1, g⟩
      · exact .inl ⟨k, g⟩
      · exact .inr (.inl ⟨k, _, u0, g, s1⟩)
      · exact .inr (.inl ⟨k, _, u0, g, s2⟩)
      · exact .inr (.inr ⟨k, _, _, u0, u1, g, s3, s2⟩)
    | cons p r =>
      rw [hk] at sv
      obtain ⟨k0, v0⟩ := p
      have hlen : vs.length = r.length + 1 := by rw [sv.1]; simp
      obtain ⟨v1, r0, rfl⟩ : ∃ v1 r0, vs = v1 :: r0 := by
        cases vs with
        | nil => simp at hlen
        | cons a b => exact ⟨a, b, rfl⟩
      obtain ⟨a, t4, ha, rfl⟩ := sv.2 0 v1 rfl
      have ea : a = k0 := by simpa using ha.symm
      subst ea
      have sa : a.length ≤ 1000 := short a (by rw [hk]; simp)
      have hr : r0.length ≤ 900 := by rw [hk] at hlenV; simp at hlen hlenV; omega
      refine wpAny_mono (lift_x F₁ i1 fun x ox a b c' _ => ust1_n X T Bl F₁ (news_c F₁ (g1 _ _ (by omega) gcD) (by omega) (news_c F₁ gLH (by omega) (news_1 a b c'))) dcD (by omega) hr hh) (fun fl s' h => ?_) fun _ _ e => e
      obtain ⟨m', lk, F', K', hp⟩ := h
      refine ⟨m', lk, F', K', fun x hx => ?_⟩
      obtain ⟨e, hm, NM, a1, a2, a3⟩ := hp x hx
      refine ⟨e, hm, NM, a1, a2, ?_⟩
      rcases a3 with ⟨k, g⟩ | ⟨k, u0, g⟩ | ⟨k, u0, g⟩ | ⟨k, u0, u1, g⟩
      · exact .inl ⟨k, g⟩
      · exact .inr (.inl ⟨k, _, u0, g, sa⟩)
      · exact .inr (.inl ⟨k, _, u0, g, s2⟩)
      · exact .inr (.inr ⟨k, _, _, u0, u1, g, sa, s2⟩)
  refine seq st1 i1 (fun _ _ _ _ h => h.1) fun s₂ m₂ lk₂ F₂ K₂ hP₂ => ?_
  obtain ⟨_, hm₂, NM, hnm, lNM, shape⟩ := hP₂ _ i1
  have g2 : ∀ (b : Nat) o, b ≠ L → s.heap.get? b = some o → s₂.heap.get? b = some o := fun b o n e => K₂ b o n (by simp) (g1 b o n e)
  have e2 : ∀ y, y ≠ nNames ∧ y ≠ nHere → m₂ y = m y := fun y hy => (hm₂ y hy.1).trans (hm₁ y hy.2)
  have gLH₂ := K₂ _ _ (by show LH ≠ L; omega) (by simp) gLH
  have hh₂ : m₂ nHere = some (.ref LH) := (hm₂ _ (by decide +kernel)).trans hh
  have C₂ : Core w fa L f cc B DB MS P I sc dc pm ct oc oI U n c kM kP tt tv s₂.heap := C.keep (K₁.t2 K₂) (by simp)
  have l1₂ := (e2 nModule (by decide +kernel)).trans l1
  have told₂ := (e2 nTold (by decide +kernel)).trans told
  have cT₂ : CIs s₂.heap (L+1+1+1+1+1+1) (.ref TB) := cis_up' cT fun o g => g2 _ _ (by omega) g
  have dTB₂ : DIs w s₂.heap TB kV0 := dis_up dTB fun o g => g2 _ _ (by omega) g
  have lM : kM.length ≤ 1000 := by have := len_par C.keys; have := C.lenP; omega
  have hC' : ∀ s' : Shared, Keeps L [TB] s₂.heap s'.heap → Core w fa L f cc B DB MS P I sc dc pm ct oc oI U n c kM kP tt tv s'.heap := fun s' K => C₂.keep K (fun d hd => by rw [List.mem_singleton.mp hd]; exact .inr (.inr (.inr hU)))
  have tabOf : ∀ {h : Heap}, Core w fa L f cc B DB MS P I sc dc pm ct oc oI U n c kM kP tt tv h → ∀ TM : Nat, valueAt kM mod = some (.ref TM) → P < TM ∧ DIs w h TM (tt mod) ∧ (tt mod).length ≤ 1000 ∧ (∀ nm u, valueAt (tt mod) nm = some u → ∃ nd : Nat, u = .ref nd) ∧ (tt mod).map (·.1) = kV0.map (·.1) := fun {h} C' TM hu => by
    obtain ⟨v, hv⟩ := val_some_par C'.keys.symm hu
    obtain ⟨TM', PT, e1, e2, tb⟩ := C'.tabs mod _ v hu hv
    cases e1
    have := tb.l1
    have := tb.len
    refine ⟨tb.l1.1, tb.dT, by omega, fun nm u h => ?_, ?_⟩
    · obtain ⟨b, hb⟩ := val_some_par tb.keys.symm h
      obtain ⟨nd, _, _, _, _, e, _⟩ := tb.ents nm u b h hb
      exact ⟨nd, e⟩
    · rcases hV0 with ⟨hn, _⟩ | ⟨_, _, e⟩
      · rw [hn] at hv; cases hv
      · rw [e]; exact tb.keys
  have pre : ∀ fl s', BrPost w h₀ fa L f cc B DB MS P I sc dc pm ct oc oI (n + 2) c m₂ s₂ fl s' → BrPost w h₀ fa L f cc B DB MS P I sc dc pm ct oc oI (n + 2) c m s fl s' := fun fl s' x => x.pre (lk₁.trans lk₂) (e2 _ (by decide +kernel)) (e2 _ (by decide +kernel)) fun a o ha e => g2 a o (by omega) e
  refine wpAny_mono ?_ pre fun _ _ e => e
  rcases shape with ⟨k, gN⟩ | ⟨k, nm, t, gN, sn⟩ | ⟨k, nm, nm2, t, t', gN, sn, sn2⟩
  · refine un_rest X T Bl F₂ C₂ hn hU cT₂ dTB₂ hV0 l1₂ ⟨_, told₂⟩ (ks := kV0.map (·.1)) gLH₂ sv (by omega) (fun s' m' F' K' q1 q2 x ox a b c' E => ?_) (fun s' m' F' K' q1 q2 q3 E => ⟨fun TM hu => ?_, fun hu => ?_⟩) _
    · have gN' := K' _ _ (by show NM ≠ L; omega) (by simp) gN
      exact u3i_0 X T Bl F' (news_c F' gN' (by omega) (news_1 a b c')) (q1.trans hnm) (q2.trans hh₂)
    · have C' := hC' s' K'
      have gN' := K' _ _ (by show NM ≠ L; omega) (ni1 (by omega)) gN
      obtain ⟨a1, a2, a3, a4, a5⟩ := tabOf C' TM hu
      have := ust4_0p (fa := fa) X T Bl F' (by omega) C'.cB C'.gB C'.bd C'.dM a2 lM a3 hc lm gN' (by omega) (q1.trans hnm) (q2.trans l1₂) (q3.trans told₂) hu E
      rw [a5] at this
      exact this
    · have C' := hC' s' K'
      have gN' := K' _ _ (by show NM ≠ L; omega) (ni1 (by omega)) gN
      obtain ⟨oP', gP', _⟩ := C'.dP
      exact ust4_0a X T Bl F' (by omega) C'.cB C'.gB C'.bd C'.dM gP' lM hc lm gN' (by omega) (q1.trans hnm) (q2.trans l1₂) (q3.trans told₂) hu E
  · have sv1 : SV [.str nm t] [nm] := ⟨rfl, fun i v hv => by
      cases i with
      | zero => cases hv; exact ⟨nm, t, rfl, rfl⟩
      | succ i => simp at hv⟩
    refine un_rest X T Bl F₂ C₂ hn hU cT₂ dTB₂ hV0 l1₂ ⟨_, told₂⟩ (ks := [nm]) (vs := [.str nm t]) gN sv1 (by omega) (fun s' m' F' K' q1 q2 x ox a b c' E => ?_) (fun s' m' F' K' q1 q2 q3 E => ⟨fun TM hu => ?_, fun hu => ?_⟩) _
    · have gN' := K' _ _ (by show NM ≠ L; omega) (by simp) gN
      exact u3i_1 X T Bl F' (news_c F' gN' (by omega) (news_1 a b c')) (q1.trans hnm) (q2.trans hh₂)
    · have C' := hC' s' K'
      have gN' := K' _ _ (by show NM ≠ L; omega) (ni1 (by omega)) gN
      obtain ⟨a1, a2, a3, a4, a5⟩ := tabOf C' TM hu
      exact ust4_1p X T Bl F' (by omega) C'.cB C'.gB C'.bd C'.dM a2 lM a3 hc lm sn gN' (by omega) (q1.trans hnm) (q2.trans l1₂) (q3.trans told₂) hu a4 E
    · have C' := hC' s' K'
      have gN' := K' _ _ (by show NM ≠ L; omega) (ni1 (by omega)) gN
      obtain ⟨oP', gP', _⟩ := C'.dP
      exact ust4_1a X T Bl F' (by omega) C'.cB C'.gB C'.bd C'.dM gP' lM hc lm sn gN' (by omega) (q1.trans hnm) (q2.trans l1₂) (q3.trans told₂) hu E
  · have sv2 : SV [.str nm t, .str nm2 t'] [nm, nm2] := ⟨rfl, fun i v hv => by
      match i, hv with
      | 0, hv => cases hv; exact ⟨nm, t, rfl, rfl⟩
      | 1, hv => cases hv; exact ⟨nm2, t', rfl, rfl⟩
      | i + 2, hv => simp at hv⟩
    refine un_rest X T Bl F₂ C₂ hn hU cT₂ dTB₂ hV0 l1₂ ⟨_, told₂⟩ (ks := [nm, nm2]) (vs := [.str nm t, .str nm2 t']) gN sv2 (by omega) (fun s' m' F' K' q1 q2 x ox a b c' E => ?_) (fun s' m' F' K' q1 q2 q3 E => ⟨fun TM hu => ?_, fun hu => ?_⟩) _
    · have gN' := K' _ _ (by show NM ≠ L; omega) (by simp) gN
      exact u3i_2 X T Bl F' (news_c F' gN' (by omega) (news_1 a b c')) (q1.trans hnm) (q2.trans hh₂)
    · have C' := hC' s' K'
      have gN' := K' _ _ (by show NM ≠ L; omega) (ni1 (by omega)) gN
      obtain ⟨a1, a2, a3, a4, a5⟩ := tabOf C' TM hu
      exact ust4_2p X T Bl F' (by omega) C'.cB C'.gB C'.bd C'.dM a2 lM a3 hc lm sn sn2 gN' (by omega) (q1.trans hnm) (q2.trans l1₂) (q3.trans told₂) hu a4 E
    · have C' := hC' s' K'
      have gN' := K' _ _ (by show NM ≠ L; omega) (ni1 (by omega)) gN
      obtain ⟨oP', gP', _⟩ := C'.dP
      exact ust4_2a X T Bl F' (by omega) C'.cB C'.gB C'.bd C'.dM gP' lM hc lm sn sn2 gN' (by omega) (q1.trans hnm) (q2.trans l1₂) (q3.trans told₂) hu E
end
end Mine
namespace Mine
abbrev vN : Nd → Value := fun e => .ref e.n
abbrev vP : Nd → Value := fun e => .ref e.tp
abbrev nNodes : Str := Str.ofString "nodes"
abbrev nLabels : Str := Str.ofString "labels"
/-- what is there behind export_symbols -/
def ExpP (w : World) (DB MS TM : Nat) (c : Int) (kT : List (Str × Value)) (es : List Nd) (m m' : Str → Option Value) (h' : Heap) : Prop :=
  DIs w h' TM (puts vN kT es).1 ∧ ((puts vN kT es).2 = true → BIs w h' DB MS (c + 1) ∧ ∀ y, m' y = m y) ∧ ((puts vN kT es).2 = false → BIs w h' DB MS c ∧ (∃ t, m' nTold = some (.str (Str.ofString "refused") t)) ∧ ∀ y, y ≠ nTold → m' y = m y) ∧
    ∀ (i : Nat) (e : Nd), es[i]? = some e → NIs w h' e.n e.d e.tp (if doneAt vN kT es i then e.key else e.lab)
section
variable {w : World} {DB MS TM : Nat} {c : Int} {kT : List (Str × Value)} {m m' : Str → Option Value} {h' : Heap} {e1 e2 : Nd}
theorem idx1 {P : Nat → Nd → Prop} (h : P 0 e1) : ∀ (i : Nat) (e : Nd), [e1][i]? = some e → P i e := fun i e he => by
  match i, he with
  | 0, he => cases he; exact h
theorem idx2 {P : Nat → Nd → Prop} (h : P 0 e1) (h2 : P 1 e2) : ∀ (i : Nat) (e : Nd), [e1, e2][i]? = some e → P i e := fun i e he => by
  match i, he with
  | 0, he => cases he; exact h
  | 1, he => cases he; exact h2
theorem ExpP.one_ok (v2 : valueAt kT e1.nm = none) (dT : DIs w h' TM (stored kT e1.key (.ref e1.n))) (bd : BIs w h' DB MS (c + 1)) (hm : ∀ y, m' y = m y) (ni : NIs w h' e1.n e1.d e1.tp e1.key) : ExpP w DB MS TM c kT [e1] m m' h' := by
  have e : puts vN kT [e1] = (stored kT e1.key (.ref e1.n), true) := by simp [puts, put, v2]
  have d : doneAt vN kT [e1] 0 = true := by show (puts vN kT [e1]).2 = true; rw [e]
  unfold ExpP
  rw [e]
  exact ⟨dT, fun _ => ⟨bd, hm⟩, (fun h => by simp at h), idx1 (by rw [d]; exact ni)⟩
theorem ExpP.one_ref {u : Value} (v2 : valueAt kT e1.nm = some u) (dT : DIs w h' TM kT) (bd : BIs w h' DB MS c) (hr : (∃ t, m' nTold = some (.str (Str.ofString "refused") t)) ∧ ∀ y, y ≠ nTold → m' y = m y) (ni : NIs w h' e1.n e1.d e1.tp e1.lab) : ExpP w DB MS TM c kT [e1] m m' h' := by
  have e : puts vN kT [e1] = (kT, false) := by simp [puts, put, v2]
  have d : doneAt vN kT [e1] 0 = false := by show (puts vN kT [e1]).2 = false; rw [e]
  unfold ExpP
  rw [e]
  exact ⟨dT, (fun h => by simp at h), fun _ => ⟨bd, hr⟩, idx1 (by rw [d]; exact ni)⟩
theorem ExpP.two_ok (v2 : valueAt kT e1.nm = none) (v3 : valueAt (stored kT e1.key (.ref e1.n)) e2.nm = none) (dT : DIs w h' TM (stored (stored kT e1.key (.ref e1.n)) e2.key (.ref e2.n))) (bd : BIs w h' DB MS (c + 1)) (hm : ∀ y, m' y = m y) (ni : NIs w h' e1.n e1.d e1.tp e1.key) (ni2 : NIs w h' e2.n e2.d e2.tp e2.key) : ExpP w DB MS TM c kT [e1, e2] m m' h' := by
  have e0 : puts vN kT [e1] = (stored kT e1.key (.ref e1.n), true) := by simp [puts, put, v2]
  have e : puts vN kT [e1, e2] = (stored (stored kT e1.key (.ref e1.n)) e2.key (.ref e2.n), true) := by
    rw [show puts vN kT [e1, e2] = put vN (puts vN kT [e1]) e2 from rfl, e0]; simp [put, v3]
  have d0 : doneAt vN kT [e1, e2] 0 = true := by show (puts vN kT [e1]).2 = true; rw [e0]
  have d1 : doneAt vN kT [e1, e2] 1 = true := by show (puts vN kT [e1, e2]).2 = true; rw [e]
  unfold ExpP
  rw [e]
  exact ⟨dT, fun _ => ⟨bd, hm⟩, (fun h => by simp at h), idx2 (by rw [d0]; exact ni) (by rw [d1]; exact ni2)⟩
theorem ExpP.two_r1 {u : Value} (v2 : valueAt kT e1.nm = some u) (dT : DIs w h' TM kT) (bd : BIs w h' DB MS c) (hr : (∃ t, m' nTold = some (.str (Str.ofString "refused") t)) ∧ ∀ y, y ≠ nTold → m' y = m y) (ni : NIs w h' e1.n e1.d e1.tp e1.lab) (ni2 : NIs w h' e2.n e2.d e2.tp e2.lab) : ExpP w DB MS TM c kT [e1, e2] m m' h' := by
  have e0 : puts vN kT [e1] = (kT, false) := by simp [puts, put, v2]
  have e : puts vN kT [e1, e2] = (kT, false) := by
    rw [show puts vN kT [e1, e2] = put vN (puts vN kT [e1]) e2 from rfl, e0]; simp [put]
  have d0 : doneAt vN kT [e1, e2] 0 = false := by show (puts vN kT [e1]).2 = false; rw [e0]
  have d1 : doneAt vN kT [e1, e2] 1 = false := by show (puts vN kT [e1, e2]).2 = false; rw [e]
  unfold ExpP
  rw [e]
  exact ⟨dT, (fun h => by simp at h), fun _ => ⟨bd, hr⟩, idx2 (by rw [d0]; exact ni) (by rw [d1]; exact ni2)⟩
theorem ExpP.two_r2 {u : Value} (v2 : valueAt kT e1.nm = none) (v3 : valueAt (stored kT e1.key (.ref e1.n)) e2.nm = some u) (dT : DIs w h' TM (stored kT e1.key (.ref e1.n))) (bd : BIs w h' DB MS c) (hr : (∃ t, m' nTold = some (.str (Str.ofString "refused") t)) ∧ ∀ y, y ≠ nTold → m' y = m y) (ni : NIs w h' e1.n e1.d e1.tp e1.key) (ni2 : NIs w h' e2.n e2.d e2.tp e2.lab) : ExpP w DB MS TM c kT [e1, e2] m m' h' := by
  have e0 : puts vN kT [e1] = (stored kT e1.key (.ref e1.n), true) := by simp [puts, put, v2]
  have e : puts vN kT [e1, e2] = (stored kT e1.key (.ref e1.n), false) := by
    rw [show puts vN kT [e1, e2] = put vN (puts vN kT [e1]) e2 from rfl, e0]; simp [put, v3]
  have d0 : doneAt vN kT [e1, e2] 0 = true := by show (puts vN kT [e1]).2 = true; rw [e0]
  have d1 : doneAt vN kT [e1, e2] 1 = false := by show (puts vN kT [e1, e2]).2 = false; rw [e]
  unfold ExpP
  rw [e]
  exact ⟨dT, (fun h => by simp at h), fun _ => ⟨bd, hr⟩, idx2 (by rw [d0]; exact ni) (by rw [d1]; exact ni2)⟩
theorem dAt_of {h : Heap} {d : Nat} {kvs : List (Str × Value)} {k : Str} {v : Value} (x : DIs w h d kvs) (q : valueAt kvs k = some v) : DAt w h d k v := by
  obtain ⟨o, g, r, _⟩ := x
  obtain ⟨o2, es, ep, ho, _, hdat, _, hf⟩ := (Heap.dictOf_iff.mpr ⟨o, g, r⟩ : h.DictOf (strKind prg w) d kvs).mapOf
  rw [g] at ho; cases ho
  exact ⟨o, es, ep, g, hdat, by rw [hf k]; exact q⟩
theorem Nd.key_e {e : Nd} (h : e.lab = Str.ofString "") : e.key = e.nm := if_pos h
theorem Nd.key_l {e : Nd} (h : e.lab ≠ Str.ofString "") : e.key = e.lab := if_neg h
end
theorem ni4 {a b c d e : Nat} (h : a ≠ b) (h' : a ≠ c) (h'' : a ≠ d) (h3 : a ≠ e) : a ∉ ([b, c, d, e] : List Nat) := by simp; exact ⟨h, h', h'', h3⟩
section
variable {w : World} {s : Shared} {h₀ : Heap} {fa L B DB MS TM P NM NO : Nat} {m mg mb : Str → Option Value} {loose : List Str} {mean : ExcName → Option Value} {mod : Str} {t1 t2 t3 t4 : Tok} {cN cO : Nat} {c : Int} {kM kT : List (Str × Value)} {e1 e2 : Nd}
    (X : (hd.heap_39 w.params).In h₀) (T : Top topProg loose mean mg mb h₀) (Bl : Below callerA h₀ [] h₀)
include X T Bl
theorem e4_o_p (F : Fr h₀ L s.heap m) (lt : L+1+1+1+1+1+1 < DB ∧ DB < B ∧ B < MS ∧ MS < TM ∧ TM < e1.d ∧ e1.d < e1.n) (cB : CIs s.heap (L+1+1) (.ref B)) (gB : s.heap.get? B = some (instObj 121 DB)) (bd : BIs w s.heap DB MS c) (dM : DIs w s.heap MS kM)
    (dT : DIs w s.heap TM kT) (hkT : kT.length ≤ 900) (hkM : kM.length ≤ 1000) (hc : 0 ≤ c ∧ c < 900) (lm : ((mod.length : Int) != 0) = true ∧ mod.length ≤ 1000) (ni1 : NIs w s.heap e1.n e1.d e1.tp e1.lab) (nm1 : e1.nm = (Str.ofString "one")) (hl : e1.lab = Str.ofString "" ∨ (((e1.lab.length : Int) != 0) = true ∧ e1.lab.length ≤ 1000 ∧ e1.lab ≠ Str.ofString ""))
    (gN : s.heap.get? NM = some (W.listOf #[.str (Str.ofString "one") t4] cN)) (lN : L < NM) (nO : News h₀ L s.heap [(NO, W.listOf #[.ref e1.n] cO)]) (l0 : m nNames = some (.ref NM)) (l1 : m nNodes = some (.ref NO)) (l2 : m nModule = some (.str mod t1)) (l3 : m nTold = some (.str (Str.ofString "done") t2))
    (v1 : valueAt kM mod = some (.ref TM)) (refs : ∀ nm u, valueAt kT nm = some u → ∃ nd : Nat, u = .ref nd) (E : Value → Shared → Prop) :
    wpAny (model prg w) (callerA.deeper (envLaw fa L)) (exec (est 4) (envLaw fa L)) (StX h₀ L [DB, TM, e1.d] (fun _ f m' h' => f = .next ∧ ExpP w DB MS TM c kT [e1] m m' h') s) E s := by
  obtain ⟨oB, gcB, dcB⟩ := cB
  obtain ⟨q1, q2, q3, ct, tN, gDB⟩ := id bd
  obtain ⟨oMS, gMS, hMS, lMS⟩ := id dM
  obtain ⟨gn1, u1, u2, u3, gd1⟩ := id ni1
  obtain ⟨oTM, gTM, hTM, lTM⟩ := id dT
  have NN : ∀ x ox, s.heap.get? x = some ox → h₀.get? x = none → x ≠ L → News h₀ L s.heap [(L+1+1, oB), (B, instObj 121 DB), (DB, bD w q1 q2 q3 (.int c ct) tN MS), (MS, oMS), (TM, oTM), (e1.n, instObj 170 e1.d), (e1.d, nD w u1 u2 u3 e1.tp e1.lab), (e1.n, instObj 170 e1.d), (e1.d, nD w u1 u2 u3 e1.tp e1.lab), (NM, W.listOf #[.str (Str.ofString "one") t4] cN), (NO, W.listOf #[.ref e1.n] cO), (x, ox)] := fun x ox a b c' =>
    news_c F gcB (by omega) (news_c F gB (by omega) (news_c F gDB (by omega) (news_c F gMS (by omega) (news_c F gTM (by omega) (news_c F gn1 (by omega) (news_c F gd1 (by omega) (news_c F gn1 (by omega) (news_c F gd1 (by omega) (news_c F gN lN (news_cons nO (news_1 a b c')))))))))))
  have hlt : L+1+1 < DB ∧ DB < B := by omega
  cases w2 : valueAt kT e1.nm with
  | some u =>
    obtain ⟨nd, rfl⟩ := refs _ u w2
    have w2' := w2
    rw [nm1] at w2'
    have i0 : Old h₀ L [] s.heap (L+1+1) := old_of F gcB (by omega) (by simp)
    refine wpAny_mono (lift_x F i0 fun x ox a b c' _ => est4_o (n1 := e1.n) (d1 := e1.d) (n2 := e1.n) (d2 := e1.d) (PO := fun _ _ => False) (RO := fun _ _ => True) (Qe := fun _ _ => True) (a1 := x) (a2 := x) X T Bl F (NN x ox a b c') dcB hlt ⟨⟨c', b⟩, ⟨c', b⟩, c', b⟩ (fun s' m' F' N' => wpAny_mono (exp_o_r1_l (PO := fun _ _ => False) (RO := fun _ _ => True) X T Bl F' (news_cons (news_of N' (.head _)) (news_cons (news_of N' (.tail _ (.head _))) (news_cons (news_of N' (.tail _ (.tail _ (.head _)))) (news_cons (news_of N' (.tail _ (.tail _ (.tail _ (.head _))))) (news_cons (news_of N' (.tail _ (.tail _ (.tail _ (.tail _ (.head _)))))) (news_cons (news_of N' (.tail _ (.tail _ (.tail _ (.tail _ (.tail _ (.head _))))))) (news_of N' (.tail _ (.tail _ (.tail _ (.tail _ (.tail _ (.tail _ (.tail _ (.tail _ (.head _)))))))))))))))) hMS lMS hTM lTM ⟨lt.2.1, lt.2.2.1, lt.2.2.2.1, lt.2.2.2.2.1, lt.2.2.2.2.2⟩ lm.1 lm.2 hkM ⟨hc.1, by omega⟩ hkT v1 w2') (fun _ _ h => h) fun e s2 h => rz1_mono h fun B g _ => ⟨ox, ox, g, g, trivial⟩) l0 l1 l2 l3)
      (fun f s' h => stx_conv (Q := fun f m' h' => f = .next ∧ ExpP w DB MS TM c kT [e1] m m' h') h i0 (by simp) fun m' ⟨p1, p2⟩ K => ?_) fun _ _ e => e
    rcases p2 with ⟨v, h, _⟩ | ⟨_, p2, p3⟩
    · exact h.elim
    · exact ⟨p1, ExpP.one_ref w2 (dis_up dT fun o g => K _ _ (nn (by omega)) (by simp) g) (bis_up bd fun o g => K _ _ (nn (by omega)) (by simp) g) ⟨p2, p3⟩ (nis_up ni1 (fun o g => K _ _ (nn (by omega)) (by simp) g) fun o g => K _ _ (nn (by omega)) (by simp) g)⟩
  | none =>
    have w2' := w2
    rw [nm1] at w2'
    rcases hl with hl1 | ⟨zl1, yl1, nl1⟩
    · have hk1 := Nd.key_e hl1
      have i0 : Old h₀ L [TM, DB, e1.d] s.heap (L+1+1) := old_of F gcB (by omega) (Mine.ni3 (by omega) (by omega) (by omega))
      refine wpAny_mono (lift_x F i0 fun x ox a b c' d => est4_o (n1 := e1.n) (d1 := e1.d) (n2 := e1.n) (d2 := e1.d) (Qe := fun _ _ => False) (a1 := x) (a2 := x) X T Bl F (NN x ox a b c') dcB hlt ⟨⟨c', b⟩, ⟨c', b⟩, c', b⟩ (fun s' m' F' N' => exp_o_ok_e (C := 50) (PE := PQ x x fun _ _ => False) X T Bl F' (news_cons (news_of N' (.head _)) (news_cons (news_of N' (.tail _ (.head _))) (news_cons (news_of N' (.tail _ (.tail _ (.head _)))) (news_cons (news_of N' (.tail _ (.tail _ (.tail _ (.head _))))) (news_cons (news_of N' (.tail _ (.tail _ (.tail _ (.tail _ (.head _)))))) (news_cons (hl1 ▸ news_of N' (.tail _ (.tail _ (.tail _ (.tail _ (.tail _ (.head _))))))) (news_of N' (.tail _ (.tail _ (.tail _ (.tail _ (.tail _ (.tail _ (.tail _ (.tail _ (.head _)))))))))))))))) hMS lMS hTM lTM ⟨lt.2.1, lt.2.2.1, lt.2.2.2.1, lt.2.2.2.2.1, lt.2.2.2.2.2⟩ (by simpa using d) lm.1 lm.2 hkM ⟨hc.1, by omega⟩ hkT v1 w2') l0 l1 l2 l3)
        (fun f s' h => stx_conv (Q := fun f m' h' => f = .next ∧ ExpP w DB MS TM c kT [e1] m m' h') h i0 (by simp) fun m' ⟨p1, p2⟩ K => ?_) fun _ _ e => e
      rcases p2 with ⟨v, ⟨_, p4, p5, p6⟩, _, p9⟩ | ⟨⟨_, _, _, _, h⟩, _⟩
      · exact ⟨p1, ExpP.one_ok w2 (by rw [hk1, nm1]; exact p4) p5 p9 (by rw [hk1, nm1]; exact p6)⟩
      · exact h.elim
    · have hk1 := Nd.key_l nl1
      have i0 : Old h₀ L [TM, DB, e1.d] s.heap (L+1+1) := old_of F gcB (by omega) (Mine.ni3 (by omega) (by omega) (by omega))
      refine wpAny_mono (lift_x F i0 fun x ox a b c' d => est4_o (n1 := e1.n) (d1 := e1.d) (n2 := e1.n) (d2 := e1.d) (Qe := fun _ _ => False) (a1 := x) (a2 := x) X T Bl F (NN x ox a b c') dcB hlt ⟨⟨c', b⟩, ⟨c', b⟩, c', b⟩ (fun s' m' F' N' => exp_o_ok_l (C := 50) (PE := PQ x x fun _ _ => False) X T Bl F' (news_cons (news_of N' (.head _)) (news_cons (news_of N' (.tail _ (.head _))) (news_cons (news_of N' (.tail _ (.tail _ (.head _)))) (news_cons (news_of N' (.tail _ (.tail _ (.tail _ (.head _))))) (news_cons (news_of N' (.tail _ (.tail _ (.tail _ (.tail _ (.head _)))))) (news_cons (news_of N' (.tail _ (.tail _ (.tail _ (.tail _ (.tail _ (.head _))))))) (news_of N' (.tail _ (.tail _ (.tail _ (.tail _ (.tail _ (.tail _ (.tail _ (.tail _ (.head _)))))))))))))))) hMS lMS hTM lTM ⟨lt.2.1, lt.2.2.1, lt.2.2.2.1, lt.2.2.2.2.1, lt.2.2.2.2.2⟩ (by simpa using d) lm.1 lm.2 hkM ⟨hc.1, by omega⟩ hkT zl1 yl1 v1 w2') l0 l1 l2 l3)
        (fun f s' h => stx_conv (Q := fun f m' h' => f = .next ∧ ExpP w DB MS TM c kT [e1] m m' h') h i0 (by simp) fun m' ⟨p1, p2⟩ K => ?_) fun _ _ e => e
      rcases p2 with ⟨v, ⟨_, p4, p5, p6⟩, _, p9⟩ | ⟨⟨_, _, _, _, h⟩, _⟩
      · exact ⟨p1, ExpP.one_ok w2 (by rw [hk1]; exact p4) p5 p9 (by rw [hk1]; exact p6)⟩
      · exact h.elim
theorem e4_o_a (F : Fr h₀ L s.heap m) (lt : L+1+1+1+1+1+1 < DB ∧ DB < B ∧ B < MS ∧ MS < P ∧ P < e1.d ∧ e1.d < e1.n) (cB : CIs s.heap (L+1+1) (.ref B)) (gB : s.heap.get? B = some (instObj 121 DB)) (bd : BIs w s.heap DB MS c) (dM : DIs w s.heap MS kM)
    {oP : Obj} (gP : s.heap.get? P = some oP) (hkM : kM.length ≤ 1000) (hc : 0 ≤ c ∧ c < 900) (lm : ((mod.length : Int) != 0) = true ∧ mod.length ≤ 1000) (ni1 : NIs w s.heap e1.n e1.d e1.tp e1.lab) (nm1 : e1.nm = (Str.ofString "one")) (hl : e1.lab = Str.ofString "" ∨ (((e1.lab.length : Int) != 0) = true ∧ e1.lab.length ≤ 1000 ∧ e1.lab ≠ Str.ofString ""))
    (gN : s.heap.get? NM = some (W.listOf #[.str (Str.ofString "one") t4] cN)) (lN : L < NM) (nO : News h₀ L s.heap [(NO, W.listOf #[.ref e1.n] cO)]) (l0 : m nNames = some (.ref NM)) (l1 : m nNodes = some (.ref NO)) (l2 : m nModule = some (.str mod t1)) (l3 : m nTold = some (.str (Str.ofString "done") t2))
    (v1 : valueAt kM mod = none) (E : Value → Shared → Prop) :
    wpAny (model prg w) (callerA.deeper (envLaw fa L)) (exec (est 4) (envLaw fa L)) (StX h₀ L [MS, DB, e1.d] (fun x f m' h' => f = .next ∧ ∃ TM : Nat, x < TM ∧ DIs w h' MS (stored kM mod (.ref TM)) ∧ ExpP w DB MS TM c [] [e1] m m' h' ∧ (puts vN [] [e1]).2 = true) s) E s := by
  obtain ⟨oB, gcB, dcB⟩ := cB
  obtain ⟨q1, q2, q3, ct, tN, gDB⟩ := id bd
  obtain ⟨oMS, gMS, hMS, lMS⟩ := id dM
  obtain ⟨gn1, u1, u2, u3, gd1⟩ := id ni1
  have NN : ∀ x ox, s.heap.get? x = some ox → h₀.get? x = none → x ≠ L → News h₀ L s.heap [(L+1+1, oB), (B, instObj 121 DB), (DB, bD w q1 q2 q3 (.int c ct) tN MS), (MS, oMS), (P, oP), (e1.n, instObj 170 e1.d), (e1.d, nD w u1 u2 u3 e1.tp e1.lab), (e1.n, instObj 170 e1.d), (e1.d, nD w u1 u2 u3 e1.tp e1.lab), (NM, W.listOf #[.str (Str.ofString "one") t4] cN), (NO, W.listOf #[.ref e1.n] cO), (x, ox)] := fun x ox a b c' =>
    news_c F gcB (by omega) (news_c F gB (by omega) (news_c F gDB (by omega) (news_c F gMS (by omega) (news_c F gP (by omega) (news_c F gn1 (by omega) (news_c F gd1 (by omega) (news_c F gn1 (by omega) (news_c F gd1 (by omega) (news_c F gN lN (news_cons nO (news_1 a b c')))))))))))
  have hlt : L+1+1 < DB ∧ DB < B := by omega
  rcases hl with hl1 | ⟨zl1, yl1, nl1⟩
  · have hk1 := Nd.key_e hl1
    have i0 : Old h₀ L [MS, DB, e1.d] s.heap (L+1+1) := old_of F gcB (by omega) (Mine.ni3 (by omega) (by omega) (by omega))
    refine wpAny_mono (lift_x F i0 fun x ox a b c' d => est4_o (n1 := e1.n) (d1 := e1.d) (n2 := e1.n) (d2 := e1.d) (Qe := fun _ _ => False) (a1 := x) (a2 := x) X T Bl F (NN x ox a b c') dcB hlt ⟨⟨c', b⟩, ⟨c', b⟩, c', b⟩ (fun s' m' F' N' => exp_o_new_e (C := 50) (PE := PQ x x fun _ _ => False) X T Bl F' (news_cons (news_of N' (.head _)) (news_cons (news_of N' (.tail _ (.head _))) (news_cons (news_of N' (.tail _ (.tail _ (.head _)))) (news_cons (news_of N' (.tail _ (.tail _ (.tail _ (.tail _ (.head _)))))) (news_cons (hl1 ▸ news_of N' (.tail _ (.tail _ (.tail _ (.tail _ (.tail _ (.head _))))))) (news_of N' (.tail _ (.tail _ (.tail _ (.tail _ (.tail _ (.tail _ (.tail _ (.tail _ (.head _))))))))))))))) hMS lMS ⟨lt.2.1, lt.2.2.1, by omega, lt.2.2.2.2.2⟩ (by simpa using d) lm.1 lm.2 hkM ⟨hc.1, by omega⟩  v1 ) l0 l1 l2 l3)
      (fun f s' h => ?_) fun _ _ e => e
    obtain ⟨m', lk, F', K', hp⟩ := h
    refine ⟨m', lk, F', K', fun x hx => ?_⟩
    obtain ⟨p1, p2⟩ := hp x hx
    rcases p2 with ⟨v, ⟨_, TM, p3, p4, p5, p6⟩, p8, p9⟩ | ⟨⟨_, _, _, _, h⟩, _⟩
    · refine ⟨p1, TM, p8 TM (dAt_of p3 (val_self _ _ _)), p3, ?_, ?_⟩
      · exact ExpP.one_ok rfl (by rw [hk1, nm1]; exact p4) p5 p9 (by rw [hk1, nm1]; exact p6)
      · simp [puts, put, valueAt]
    · exact h.elim
  · have hk1 := Nd.key_l nl1
    have i0 : Old h₀ L [MS, DB, e1.d] s.heap (L+1+1) := old_of F gcB (by omega) (Mine.ni3 (by omega) (by omega) (by omega))
    refine wpAny_mono (lift_x F i0 fun x ox a b c' d => est4_o (n1 := e1.n) (d1 := e1.d) (n2 := e1.n) (d2 := e1.d) (Qe := fun _ _ => False) (a1 := x) (a2 := x) X T Bl F (NN x ox a b c') dcB hlt ⟨⟨c', b⟩, ⟨c', b⟩, c', b⟩ (fun s' m' F' N' => exp_o_new_l (C := 50) (PE := PQ x x fun _ _ => False) X T Bl F' (news_cons (news_of N' (.head _)) (news_cons (news_of N' (.tail _ (.head _))) (news_cons (news_of N' (.tail _ (.tail _ (.head _)))) (news_cons (news_of N' (.tail _ (.tail _ (.tail _ (.tail _ (.head _)))))) (news_cons (news_of N' (.tail _ (.tail _ (.tail _ (.tail _ (.tail _ (.head _))))))) (news_of N' (.tail _ (.tail _ (.tail _ (.tail _ (.tail _ (.tail _ (.tail _ (.tail _ (.head _))))))))))))))) hMS lMS ⟨lt.2.1, lt.2.2.1, by omega, lt.2.2.2.2.2⟩ (by simpa using d) lm.1 lm.2 hkM ⟨hc.1, by omega⟩  zl1 yl1 v1 ) l0 l1 l2 l3)
      (fun f s' h => ?_) fun _ _ e => e
    obtain ⟨m', lk, F', K', hp⟩ := h
    refine ⟨m', lk, F', K', fun x hx => ?_⟩
    obtain ⟨p1, p2⟩ := hp x hx
    rcases p2 with ⟨v, ⟨_, TM, p3, p4, p5, p6⟩, p8, p9⟩ | ⟨⟨_, _, _, _, h⟩, _⟩
    · refine ⟨p1, TM, p8 TM (dAt_of p3 (val_self _ _ _)), p3, ?_, ?_⟩
      · exact ExpP.one_ok rfl (by rw [hk1]; exact p4) p5 p9 (by rw [hk1]; exact p6)
      · simp [puts, put, valueAt]
    · exact h.elim
theorem e4_t_p (F : Fr h₀ L s.heap m) (lt : L+1+1+1+1+1+1 < DB ∧ DB < B ∧ B < MS ∧ MS < TM ∧ TM < e1.d ∧ e1.d < e1.n) (cB : CIs s.heap (L+1+1) (.ref B)) (gB : s.heap.get? B = some (instObj 121 DB)) (bd : BIs w s.heap DB MS c) (dM : DIs w s.heap MS kM)
    (dT : DIs w s.heap TM kT) (hkT : kT.length ≤ 900) (hkM : kM.length ≤ 1000) (hc : 0 ≤ c ∧ c < 900) (lm : ((mod.length : Int) != 0) = true ∧ mod.length ≤ 1000) (ni1 : NIs w s.heap e1.n e1.d e1.tp e1.lab) (nm1 : e1.nm = (Str.ofString "two")) (hl : e1.lab = Str.ofString "" ∨ (((e1.lab.length : Int) != 0) = true ∧ e1.lab.length ≤ 1000 ∧ e1.lab ≠ Str.ofString ""))
    (gN : s.heap.get? NM = some (W.listOf #[.str (Str.ofString "two") t4] cN)) (lN : L < NM) (nO : News h₀ L s.heap [(NO, W.listOf #[.ref e1.n] cO)]) (l0 : m nNames = some (.ref NM)) (l1 : m nNodes = some (.ref NO)) (l2 : m nModule = some (.str mod t1)) (l3 : m nTold = some (.str (Str.ofString "done") t2))
    (v1 : valueAt kM mod = some (.ref TM)) (refs : ∀ nm u, valueAt kT nm = some u → ∃ nd : Nat, u = .ref nd) (E : Value → Shared → Prop) :
    wpAny (model prg w) (callerA.deeper (envLaw fa L)) (exec (est 4) (envLaw fa L)) (StX h₀ L [DB, TM, e1.d] (fun _ f m' h' => f = .next ∧ ExpP w DB MS TM c kT [e1] m m' h') s) E s := by
  obtain ⟨oB, gcB, dcB⟩ := cB
  obtain ⟨q1, q2, q3, ct, tN, gDB⟩ := id bd
  obtain ⟨oMS, gMS, hMS, lMS⟩ := id dM
  obtain ⟨gn1, u1, u2, u3, gd1⟩ := id ni1
  obtain ⟨oTM, gTM, hTM, lTM⟩ := id dT
  have NN : ∀ x ox, s.heap.get? x = some ox → h₀.get? x = none → x ≠ L → News h₀ L s.heap [(L+1+1, oB), (B, instObj 121 DB), (DB, bD w q1 q2 q3 (.int c ct) tN MS), (MS, oMS), (TM, oTM), (e1.n, instObj 170 e1.d), (e1.d, nD w u1 u2 u3 e1.tp e1.lab), (e1.n, instObj 170 e1.d), (e1.d, nD w u1 u2 u3 e1.tp e1.lab), (NM, W.listOf #[.str (Str.ofString "two") t4] cN), (NO, W.listOf #[.ref e1.n] cO), (x, ox)] := fun x ox a b c' =>
    news_c F gcB (by omega) (news_c F gB (by omega) (news_c F gDB (by omega) (news_c F gMS (by omega) (news_c F gTM (by omega) (news_c F gn1 (by omega) (news_c F gd1 (by omega) (news_c F gn1 (by omega) (news_c F gd1 (by omega) (news_c F gN lN (news_cons nO (news_1 a b c')))))))))))
  have hlt : L+1+1 < DB ∧ DB < B := by omega
  cases w2 : valueAt kT e1.nm with
  | some u =>
    obtain ⟨nd, rfl⟩ := refs _ u w2
    have w2' := w2
    rw [nm1] at w2'
    have i0 : Old h₀ L [] s.heap (L+1+1) := old_of F gcB (by omega) (by simp)
    refine wpAny_mono (lift_x F i0 fun x ox a b c' _ => est4_t (n1 := e1.n) (d1 := e1.d) (n2 := e1.n) (d2 := e1.d) (PO := fun _ _ => False) (RO := fun _ _ => True) (Qe := fun _ _ => True) (a1 := x) (a2 := x) X T Bl F (NN x ox a b c') dcB hlt ⟨⟨c', b⟩, ⟨c', b⟩, c', b⟩ (fun s' m' F' N' => wpAny_mono (exp_t_r1_l (PO := fun _ _ => False) (RO := fun _ _ => True) X T Bl F' (news_cons (news_of N' (.head _)) (news_cons (news_of N' (.tail _ (.head _))) (news_cons (news_of N' (.tail _ (.tail _ (.head _)))) (news_cons (news_of N' (.tail _ (.tail _ (.tail _ (.head _))))) (news_cons (news_of N' (.tail _ (.tail _ (.tail _ (.tail _ (.head _)))))) (news_cons (news_of N' (.tail _ (.tail _ (.tail _ (.tail _ (.tail _ (.head _))))))) (news_of N' (.tail _ (.tail _ (.tail _ (.tail _ (.tail _ (.tail _ (.tail _ (.tail _ (.head _)))))))))))))))) hMS lMS hTM lTM ⟨lt.2.1, lt.2.2.1, lt.2.2.2.1, lt.2.2.2.2.1, lt.2.2.2.2.2⟩ lm.1 lm.2 hkM ⟨hc.1, by omega⟩ hkT v1 w2') (fun _ _ h => h) fun e s2 h => rz1_mono h fun B g _ => ⟨ox, ox, g, g, trivial⟩) l0 l1 l2 l3)
      (fun f s' h => stx_conv (Q := fun f m' h' => f = .next ∧ ExpP w DB MS TM c kT [e1] m m' h') h i0 (by simp) fun m' ⟨p1, p2⟩ K => ?_) fun _ _ e => e
    rcases p2 with ⟨v, h, _⟩ | ⟨_, p2, p3⟩
    · exact h.elim
    · exact ⟨p1, ExpP.one_ref w2 (dis_up dT fun o g => K _ _ (nn (by omega)) (by simp) g) (bis_up bd fun o g => K _ _ (nn (by omega)) (by simp) g) ⟨p2, p3⟩ (nis_up ni1 (fun o g => K _ _ (nn (by omega)) (by simp) g) fun o g => K _ _ (nn (by omega)) (by simp) g)⟩
  | none =>
    have w2' := w2
    rw [nm1] at w2'
    rcases hl with hl1 | ⟨zl1, yl1, nl1⟩
    · have hk1 := Nd.key_e hl1
      have i0 : Old h₀ L [TM, DB, e1.d] s.heap (L+1+1) := old_of F gcB (by omega) (Mine.ni3 (by omega) (by omega) (by omega))
      refine wpAny_mono (lift_x F i0 fun x ox a b c' d => est4_t (n1 := e1.n) (d1 := e1.d) (n2 := e1.n) (d2 := e1.d) (Qe := fun _ _ => False) (a1 := x) (a2 := x) X T Bl F (NN x ox a b c') dcB hlt ⟨⟨c', b⟩, ⟨c', b⟩, c', b⟩ (fun s' m' F' N' => exp_t_ok_e (C := 50) (PE := PQ x x fun _ _ => False) X T Bl F' (news_cons (news_of N' (.head _)) (news_cons (news_of N' (.tail _ (.head _))) (news_cons (news_of N' (.tail _ (.tail _ (.head _)))) (news_cons (news_of N' (.tail _ (.tail _ (.tail _ (.head _))))) (news_cons (news_of N' (.tail _ (.tail _ (.tail _ (.tail _ (.head _)))))) (news_cons (hl1 ▸ news_of N' (.tail _ (.tail _ (.tail _ (.tail _ (.tail _ (.head _))))))) (news_of N' (.tail _ (.tail _ (.tail _ (.tail _ (.tail _ (.tail _ (.tail _ (.tail _ (.head _)))))))))))))))) hMS lMS hTM lTM ⟨lt.2.1, lt.2.2.1, lt.2.2.2.1, lt.2.2.2.2.1, lt.2.2.2.2.2⟩ (by simpa using d) lm.1 lm.2 hkM ⟨hc.1, by omega⟩ hkT v1 w2') l0 l1 l2 l3)
        (fun f s' h => stx_conv (Q := fun f m' h' => f = .next ∧ ExpP w DB MS TM c kT [e1] m m' h') h i0 (by simp) fun m' ⟨p1, p2⟩ K => ?_) fun _ _ e => e
      rcases p2 with ⟨v, ⟨_, p4, p5, p6⟩, _, p9⟩ | ⟨⟨_, _, _, _, h⟩, _⟩
      · exact ⟨p1, ExpP.one_ok w2 (by rw [hk1, nm1]; exact p4) p5 p9 (by rw [hk1, nm1]; exact p6)⟩
      · exact h.elim
    · have hk1 := Nd.key_l nl1
      have i0 : Old h₀ L [TM, DB, e1.d] s.heap (L+1+1) := old_of F gcB (by omega) (Mine.ni3 (by omega) (by omega) (by omega))
      refine wpAny_mono (lift_x F i0 fun x ox a b c' d => est4_t (n1 := e1.n) (d1 := e1.d) (n2 := e1.n) (d2 := e1.d) (Qe := fun _ _ => False) (a1 := x) (a2 := x) X T Bl F (NN x ox a b c') dcB hlt ⟨⟨c', b⟩, ⟨c', b⟩, c', b⟩ (fun s' m' F' N' => exp_t_ok_l (C := 50) (PE := PQ x x fun _ _ => False) X T Bl F' (news_cons (news_of N' (.head _)) (news_cons (news_of N' (.tail _ (.head _))) (news_cons (news_of N' (.tail _ (.tail _ (.head _)))) (news_cons (news_of N' (.tail _ (.tail _ (.tail _ (.head _))))) (news_cons (news_of N' (.tail _ (.tail _ (.tail _ (.tail _ (.head _)))))) (news_cons (news_of N' (.tail _ (.tail _ (.tail _ (.tail _ (.tail _ (.head _))))))) (news_of N' (.tail _ (.tail _ (.tail _ (.tail _ (.tail _ (.tail _ (.tail _ (.tail _ (.head _)))))))))))))))) hMS lMS hTM lTM ⟨lt.2.1, lt.2.2.1, lt.2.2.2.1, lt.2.2.2.2.1, lt.2.2.2.2.2⟩ (by simpa using d) lm.1 lm.2 hkM ⟨hc.1, by omega⟩ hkT zl1 yl1 v1 w2') l0 l1 l2 l3)
        (fun f s' h => stx_conv (Q := fun f m' h' => f = .next ∧ ExpP w DB MS TM c kT [e1] m m' h') h i0 (by simp) fun m' ⟨p1, p2⟩ K => ?_) fun _ _ e => e
      rcases p2 with ⟨v, ⟨_, p4, p5, p6⟩, _, p9⟩ | ⟨⟨_, _, _, _, h⟩, _⟩
      · exact ⟨p1, ExpP.one_ok w2 (by rw [hk1]; exact p4) p5 p9 (by rw [hk1]; exact p6)⟩
      · exact h.elim
theorem e4_t_a (F : Fr h₀ L s.heap m) (lt : L+1+1+1+1+1+1 < DB ∧ DB < B ∧ B < MS ∧ MS < P ∧ P < e1.d ∧ e1.d < e1.n) (cB : CIs s.heap (L+1+1) (.ref B)) (gB : s.heap.get? B = some (instObj 121 DB)) (bd : BIs w s.heap DB MS c) (dM : DIs w s.heap MS kM)
    {oP : Obj} (gP : s.heap.get? P = some oP) (hkM : kM.length ≤ 1000) (hc : 0 ≤ c ∧ c < 900) (lm : ((mod.length : Int) != 0) = true ∧ mod.length ≤ 1000) (ni1 : NIs w s.heap e1.n e1.d e1.tp e1.lab) (nm1 : e1.nm = (Str.ofString "two")) (hl : e1.lab = Str.ofString "" ∨ (((e1.lab.length : Int) != 0) = true ∧ e1.lab.length ≤ 1000 ∧ e1.lab ≠ Str.ofString ""))
    (gN : s.heap.get? NM = some (W.listOf #[.str (Str.ofString "two") t4] cN)) (lN : L < NM) (nO : News h₀ L s.heap [(NO, W.listOf #[.ref e1.n] cO)]) (l0 : m nNames = some (.ref NM)) (l1 : m nNodes = some (.ref NO)) (l2 : m nModule = some (.str mod t1)) (l3 : m nTold = some (.str (Str.ofString "done") t2))
    (v1 : valueAt kM mod = none) (E : Value → Shared → Prop) :
    wpAny (model prg w) (callerA.deeper (envLaw fa L)) (exec (est 4) (envLaw fa L)) (StX h₀ L [MS, DB, e1.d] (fun x f m' h' => f = .next ∧ ∃ TM : Nat, x < TM ∧ DIs w h' MS (stored kM mod (.ref TM)) ∧ ExpP w DB MS TM c [] [e1] m m' h' ∧ (puts vN [] [e1]).2 = true) s) E s := by
  obtain ⟨oB, gcB, dcB⟩ := cB
  obtain ⟨q1, q2, q3, ct, tN, gDB⟩ := id bd
  obtain ⟨oMS, gMS, hMS, lMS⟩ := id dM
  obtain ⟨gn1, u1, u2, u3, gd1⟩ := id ni1
  have NN : ∀ x ox, s.heap.get? x = some ox → h₀.get? x = none → x ≠ L → News h₀ L s.heap [(L+1+1, oB), (B, instObj 121 DB), (DB, bD w q1 q2 q3 (.int c ct) tN MS), (MS, oMS), (P, oP), (e1.n, instObj 170 e1.d), (e1.d, nD w u1 u2 u3 e1.tp e1.lab), (e1.n, instObj 170 e1.d), (e1.d, nD w u1 u2 u3 e1.tp e1.lab), (NM, W.listOf #[.str (Str.ofString "two") t4] cN), (NO, W.listOf #[.ref e1.n] cO), (x, ox)] := fun x ox a b c' =>
    news_c F gcB (by omega) (news_c F gB (by omega) (news_c F gDB (by omega) (news_c F gMS (by omega) (news_c F gP (by omega) (news_c F gn1 (by omega) (news_c F gd1 (by omega) (news_c F gn1 (by omega) (news_c F gd1 (by omega) (news_c F gN lN (news_cons nO (news_1 a b c')))))))))))
  have hlt : L+1+1 < DB ∧ DB < B := by omega
  rcases hl with hl1 | ⟨zl1, yl1, nl1⟩
  · have hk1 := Nd.key_e hl1
    have i0 : Old h₀ L [MS, DB, e1.d] s.heap (L+1+1) := old_of F gcB (by omega) (Mine.ni3 (by omega) (by omega) (by omega))
    refine wpAny_mono (lift_x F i0 fun x ox a b c' d => est4_t (n1 := e1.n) (d1 := e1.d) (n2 := e1.n) (d2 := e1.d) (Qe := fun _ _ => False) (a1 := x) (a2 := x) X T Bl F (NN x ox a b c') dcB hlt ⟨⟨c', b⟩, ⟨c', b⟩, c', b⟩ (fun s' m' F' N' => exp_t_new_e (C := 50) (PE := PQ x x fun _ _ => False) X T Bl F' (news_cons (news_of N' (.head _)) (news_cons (news_of N' (.tail _ (.head _))) (news_cons (news_of N' (.tail _ (.tail _ (.head _)))) (news_cons (news_of N' (.tail _ (.tail _ (.tail _ (.tail _ (.head _)))))) (news_cons (hl1 ▸ news_of N' (.tail _ (.tail _ (.tail _ (.tail _ (.tail _ (.head _))))))) (news_of N' (.tail _ (.tail _ (.tail _ (.tail _ (.tail _ (.tail _ (.tail _ (.tail _ (.head _))))))))))))))) hMS lMS ⟨lt.2.1, lt.2.2.1, by omega, lt.2.2.2.2.2⟩ (by simpa using d) lm.1 lm.2 hkM ⟨hc.1, by omega⟩  v1 ) l0 l1 l2 l3)
      (fun f s' h => ?_) fun _ _ e => e
    obtain ⟨m', lk, F', K', hp⟩ := h
    refine ⟨m', lk, F', K', fun x hx => ?_⟩
    obtain ⟨p1, p2⟩ := hp x hx
    rcases p2 with ⟨v, ⟨_, TM, p3, p4, p5, p6⟩, p8, p9⟩ | ⟨⟨_, _, _, _, h⟩, _⟩
    · refine ⟨p1, TM, p8 TM (dAt_of p3 (val_self _ _ _)), p3, ?_, ?_⟩
      · exact ExpP.one_ok rfl (by rw [hk1, nm1]; exact p4) p5 p9 (by rw [hk1, nm1]; exact p6)
      · simp [puts, put, valueAt]
    · exact h.elim
  · have hk1 := Nd.key_l nl1
    have i0 : Old h₀ L [MS, DB, e1.d] s.heap (L+1+1) := old_of F gcB (by omega) (Mine.ni3 (by omega) (by omega) (by omega))
    refine wpAny_mono (lift_x F i0 fun x ox a b c' d => est4_t (n1 := e1.n) (d1 := e1.d) (n2 := e1.n) (d2 := e1.d) (Qe := fun _ _ => False) (a1 := x) (a2 := x) X T Bl F (NN x ox a b c') dcB hlt ⟨⟨c', b⟩, ⟨c', b⟩, c', b⟩ (fun s' m' F' N' => exp_t_new_l (C := 50) (PE := PQ x x fun _ _ => False) X T Bl F' (news_cons (news_of N' (.head _)) (news_cons (news_of N' (.tail _ (.head _))) (news_cons (news_of N' (.tail _ (.tail _ (.head _)))) (news_cons (news_of N' (.tail _ (.tail _ (.tail _ (.tail _ (.head _)))))) (news_cons (news_of N' (.tail _ (.tail _ (.tail _ (.tail _ (.tail _ (.head _))))))) (news_of N' (.tail _ (.tail _ (.tail _ (.tail _ (.tail _ (.tail _ (.tail _ (.tail _ (.head _))))))))))))))) hMS lMS ⟨lt.2.1, lt.2.2.1, by omega, lt.2.2.2.2.2⟩ (by simpa using d) lm.1 lm.2 hkM ⟨hc.1, by omega⟩  zl1 yl1 v1 ) l0 l1 l2 l3)
      (fun f s' h => ?_) fun _ _ e => e
    obtain ⟨m', lk, F', K', hp⟩ := h
    refine ⟨m', lk, F', K', fun x hx => ?_⟩
    obtain ⟨p1, p2⟩ := hp x hx
    rcases p2 with ⟨v, ⟨_, TM, p3, p4, p5, p6⟩, p8, p9⟩ | ⟨⟨_, _, _, _, h⟩, _⟩
    · refine ⟨p1, TM, p8 TM (dAt_of p3 (val_self _ _ _)), p3, ?_, ?_⟩
      · exact ExpP.one_ok rfl (by rw [hk1]; exact p4) p5 p9 (by rw [hk1]; exact p6)
      · simp [puts, put, valueAt]
    · exact h.elim
theorem e4_ot_p (F : Fr h₀ L s.heap m) (lt : L+1+1+1+1+1+1 < DB ∧ DB < B ∧ B < MS ∧ MS < TM ∧ TM < e1.d ∧ e1.d < e1.n ∧ e1.n < e2.d ∧ e2.d < e2.n) (cB : CIs s.heap (L+1+1) (.ref B)) (gB : s.heap.get? B = some (instObj 121 DB)) (bd : BIs w s.heap DB MS c) (dM : DIs w s.heap MS kM)
    (dT : DIs w s.heap TM kT) (hkT : kT.length ≤ 900) (hkM : kM.length ≤ 1000) (hc : 0 ≤ c ∧ c < 900) (lm : ((mod.length : Int) != 0) = true ∧ mod.length ≤ 1000) (ni1 : NIs w s.heap e1.n e1.d e1.tp e1.lab) (ni2 : NIs w s.heap e2.n e2.d e2.tp e2.lab) (nm1 : e1.nm = (Str.ofString "one")) (nm2 : e2.nm = (Str.ofString "two")) (hl : (e1.lab = Str.ofString "" ∧ e2.lab = Str.ofString "") ∨ ((((e1.lab.length : Int) != 0) = true ∧ e1.lab.length ≤ 1000 ∧ e1.lab ≠ Str.ofString "") ∧ (((e2.lab.length : Int) != 0) = true ∧ e2.lab.length ≤ 1000 ∧ e2.lab ≠ Str.ofString "")))
    (gN : s.heap.get? NM = some (W.listOf #[.str (Str.ofString "one") t4, .str (Str.ofString "two") t3] cN)) (lN : L < NM) (nO : News h₀ L s.heap [(NO, W.listOf #[.ref e1.n, .ref e2.n] cO)]) (l0 : m nNames = some (.ref NM)) (l1 : m nNodes = some (.ref NO)) (l2 : m nModule = some (.str mod t1)) (l3 : m nTold = some (.str (Str.ofString "done") t2))
    (v1 : valueAt kM mod = some (.ref TM)) (refs : ∀ nm u, valueAt kT nm = some u → ∃ nd : Nat, u = .ref nd) (E : Value → Shared → Prop) :
    wpAny (model prg w) (callerA.deeper (envLaw fa L)) (exec (est 4) (envLaw fa L)) (StX h₀ L [DB, TM, e1.d, e2.d] (fun _ f m' h' => f = .next ∧ ExpP w DB MS TM c kT [e1, e2] m m' h') s) E s := by
  obtain ⟨oB, gcB, dcB⟩ := cB
  obtain ⟨q1, q2, q3, ct, tN, gDB⟩ := id bd
  obtain ⟨oMS, gMS, hMS, lMS⟩ := id dM
  obtain ⟨gn1, u1, u2, u3, gd1⟩ := id ni1
  obtain ⟨gn2, y1, y2, y3, gd2⟩ := id ni2
  obtain ⟨oTM, gTM, hTM, lTM⟩ := id dT
  have NN : ∀ x ox, s.heap.get? x = some ox → h₀.get? x = none → x ≠ L → News h₀ L s.heap [(L+1+1, oB), (B, instObj 121 DB), (DB, bD w q1 q2 q3 (.int c ct) tN MS), (MS, oMS), (TM, oTM), (e1.n, instObj 170 e1.d), (e1.d, nD w u1 u2 u3 e1.tp e1.lab), (e2.n, instObj 170 e2.d), (e2.d, nD w y1 y2 y3 e2.tp e2.lab), (NM, W.listOf #[.str (Str.ofString "one") t4, .str (Str.ofString "two") t3] cN), (NO, W.listOf #[.ref e1.n, .ref e2.n] cO), (x, ox)] := fun x ox a b c' =>
    news_c F gcB (by omega) (news_c F gB (by omega) (news_c F gDB (by omega) (news_c F gMS (by omega) (news_c F gTM (by omega) (news_c F gn1 (by omega) (news_c F gd1 (by omega) (news_c F gn2 (by omega) (news_c F gd2 (by omega) (news_c F gN lN (news_cons nO (news_1 a b c')))))))))))
  have hlt : L+1+1 < DB ∧ DB < B := by omega
  cases w2 : valueAt kT e1.nm with
  | some u =>
    obtain ⟨nd, rfl⟩ := refs _ u w2
    have w2' := w2
    rw [nm1] at w2'
    have i0 : Old h₀ L [] s.heap (L+1+1) := old_of F gcB (by omega) (by simp)
    refine wpAny_mono (lift_x F i0 fun x ox a b c' _ => est4_b (n1 := e1.n) (d1 := e1.d) (n2 := e2.n) (d2 := e2.d) (PO := fun _ _ => False) (RO := fun _ _ => True) (Qe := fun _ _ => True) (a1 := x) (a2 := x) X T Bl F (NN x ox a b c') dcB hlt ⟨⟨c', b⟩, ⟨c', b⟩, c', b⟩ (fun s' m' F' N' => wpAny_mono (exp_ot_r1_l (PO := fun _ _ => False) (RO := fun _ _ => True) X T Bl F' (news_cons (news_of N' (.head _)) (news_cons (news_of N' (.tail _ (.head _))) (news_cons (news_of N' (.tail _ (.tail _ (.head _)))) (news_cons (news_of N' (.tail _ (.tail _ (.tail _ (.head _))))) (news_cons (news_of N' (.tail _ (.tail _ (.tail _ (.tail _ (.head _)))))) (news_cons (news_of N' (.tail _ (.tail _ (.tail _ (.tail _ (.tail _ (.head _))))))) (news_cons (news_of N' (.tail _ (.tail _ (.tail _ (.tail _ (.tail _ (.tail _ (.head _)))))))) (news_cons (news_of N' (.tail _ (.tail _ (.tail _ (.tail _ (.tail _ (.tail _ (.tail _ (.head _))))))))) (news_of N' (.tail _ (.tail _ (.tail _ (.tail _ (.tail _ (.tail _ (.tail _ (.tail _ (.head _)))))))))))))))))) hMS lMS hTM lTM ⟨lt.2.1, lt.2.2.1, lt.2.2.2.1, lt.2.2.2.2.1, lt.2.2.2.2.2.1, lt.2.2.2.2.2.2.1, lt.2.2.2.2.2.2.2⟩ lm.1 lm.2 hkM ⟨hc.1, by omega⟩ hkT v1 w2') (fun _ _ h => h) fun e s2 h => rz1_mono h fun B g _ => ⟨ox, ox, g, g, trivial⟩) l0 l1 l2 l3)
      (fun f s' h => stx_conv (Q := fun f m' h' => f = .next ∧ ExpP w DB MS TM c kT [e1, e2] m m' h') h i0 (by simp) fun m' ⟨p1, p2⟩ K => ?_) fun _ _ e => e
    rcases p2 with ⟨v, h, _⟩ | ⟨_, p2, p3⟩
    · exact h.elim
    · exact ⟨p1, ExpP.two_r1 w2 (dis_up dT fun o g => K _ _ (nn (by omega)) (by simp) g) (bis_up bd fun o g => K _ _ (nn (by omega)) (by simp) g) ⟨p2, p3⟩ (nis_up ni1 (fun o g => K _ _ (nn (by omega)) (by simp) g) fun o g => K _ _ (nn (by omega)) (by simp) g) (nis_up ni2 (fun o g => K _ _ (nn (by omega)) (by simp) g) fun o g => K _ _ (nn (by omega)) (by simp) g)⟩
  | none =>
    have w2' := w2
    rw [nm1] at w2'
    have nT : TM ≠ L ∧ h₀.get? TM = none := ((news_c F gTM (by omega) News.nil : News h₀ L s.heap [(TM, oTM)]) _ (.head _)).2
    have nd1 : e1.d ≠ L ∧ h₀.get? e1.d = none := ((news_c F gd1 (by omega) News.nil : News h₀ L s.heap [(e1.d, nD w u1 u2 u3 e1.tp e1.lab)]) _ (.head _)).2
    cases w3 : valueAt (stored kT e1.key (.ref e1.n)) e2.nm with
    | some u =>
      obtain ⟨nd, rfl⟩ : ∃ nd : Nat, u = .ref nd := by
        rcases val_stored w3 with ⟨_, h⟩ | ⟨_, h⟩
        · exact ⟨_, h⟩
        · exact refs _ u h
      have w3' := w3
      rw [nm2] at w3'
      rcases hl with ⟨hl1, hl2⟩ | ⟨⟨zl1, yl1, nl1⟩, zl2, yl2, nl2⟩
      · have hk1 := Nd.key_e hl1
        rw [hk1, nm1] at w3'
        have i0 : Old h₀ L [TM, e1.d] s.heap (L+1+1) := old_of F gcB (by omega) (Mine.ni2 (by omega) (by omega))
        refine wpAny_mono (lift_x F i0 fun x ox a b c' d => est4_b (n1 := e1.n) (d1 := e1.d) (n2 := e2.n) (d2 := e2.d) (PO := fun _ _ => False) (RO := fun _ _ => True) (Qe := fun o o2 => (o.IsDictOf (strKind prg w) (stored kT (Str.ofString "one") (.ref e1.n)) ∧ (TM == sysModules) = false) ∧ ∃ u1 u2 u3, o2 = nD w u1 u2 u3 e1.tp (Str.ofString "one")) (a1 := TM) (a2 := e1.d) X T Bl F (NN x ox a b c') dcB hlt ⟨⟨c', b⟩, nT, nd1⟩ (fun s' m' F' N' => wpAny_mono (exp_ot_r2_e (PO := fun _ _ => False) (RO := fun _ _ => True) X T Bl F' (news_cons (news_of N' (.head _)) (news_cons (news_of N' (.tail _ (.head _))) (news_cons (news_of N' (.tail _ (.tail _ (.head _)))) (news_cons (news_of N' (.tail _ (.tail _ (.tail _ (.head _))))) (news_cons (news_of N' (.tail _ (.tail _ (.tail _ (.tail _ (.head _)))))) (news_cons (hl1 ▸ news_of N' (.tail _ (.tail _ (.tail _ (.tail _ (.tail _ (.head _))))))) (news_cons (news_of N' (.tail _ (.tail _ (.tail _ (.tail _ (.tail _ (.tail _ (.head _)))))))) (news_cons (hl2 ▸ news_of N' (.tail _ (.tail _ (.tail _ (.tail _ (.tail _ (.tail _ (.tail _ (.head _))))))))) (news_of N' (.tail _ (.tail _ (.tail _ (.tail _ (.tail _ (.tail _ (.tail _ (.tail _ (.head _)))))))))))))))))) hMS lMS hTM lTM ⟨lt.2.1, lt.2.2.1, lt.2.2.2.1, lt.2.2.2.2.1, lt.2.2.2.2.2.1, lt.2.2.2.2.2.2.1, lt.2.2.2.2.2.2.2⟩ (by simpa using d) lm.1 lm.2 hkM ⟨hc.1, by omega⟩ hkT v1 w2' w3') (fun _ _ h => h) fun e s2 h => rz1_mono h fun B g ⟨⟨o, go, ho⟩, _, w1, w2, w3, g2⟩ => ⟨o, _, go, g2, ho, w1, w2, w3, rfl⟩) l0 l1 l2 l3)
          (fun f s' h => stx_conv (Q := fun f m' h' => f = .next ∧ ExpP w DB MS TM c kT [e1, e2] m m' h') h i0 (by simp) fun m' ⟨p1, p2⟩ K => ?_) fun _ _ e => e
        rcases p2 with ⟨v, h, _⟩ | ⟨⟨o1, o2, g1, g2, r1, w1, w2', w3', r2⟩, p2, p3⟩
        · exact h.elim
        · exact ⟨p1, ExpP.two_r2 w2 w3 (by rw [hk1, nm1]; exact ⟨o1, g1, r1⟩) (bis_up bd fun o g => K _ _ (nn (by omega)) (Mine.ni2 (by omega) (by omega)) g) ⟨p2, p3⟩ (by rw [hk1, nm1]; exact ⟨K _ _ (nn (by omega)) (Mine.ni2 (by omega) (by omega)) gn1, w1, w2', w3', by rw [g2, r2]⟩) (nis_up ni2 (fun o g => K _ _ (nn (by omega)) (Mine.ni2 (by omega) (by omega)) g) fun o g => K _ _ (nn (by omega)) (Mine.ni2 (by omega) (by omega)) g)⟩
      · have hk1 := Nd.key_l nl1
        rw [hk1] at w3'
        have i0 : Old h₀ L [TM, e1.d] s.heap (L+1+1) := old_of F gcB (by omega) (Mine.ni2 (by omega) (by omega))
        refine wpAny_mono (lift_x F i0 fun x ox a b c' d => est4_b (n1 := e1.n) (d1 := e1.d) (n2 := e2.n) (d2 := e2.d) (PO := fun _ _ => False) (RO := fun _ _ => True) (Qe := fun o o2 => (o.IsDictOf (strKind prg w) (stored kT e1.lab (.ref e1.n)) ∧ (TM == sysModules) = false) ∧ ∃ u1 u2 u3, o2 = nD w u1 u2 u3 e1.tp e1.lab) (a1 := TM) (a2 := e1.d) X T Bl F (NN x ox a b c') dcB hlt ⟨⟨c', b⟩, nT, nd1⟩ (fun s' m' F' N' => wpAny_mono (exp_ot_r2_l (PO := fun _ _ => False) (RO := fun _ _ => True) X T Bl F' (news_cons (news_of N' (.head _)) (news_cons (news_of N' (.tail _ (.head _))) (news_cons (news_of N' (.tail _ (.tail _ (.head _)))) (news_cons (news_of N' (.tail _ (.tail _ (.tail _ (.head _))))) (news_cons (news_of N' (.tail _ (.tail _ (.tail _ (.tail _ (.head _)))))) (news_cons (news_of N' (.tail _ (.tail _ (.tail _ (.tail _ (.tail _ (.head _))))))) (news_cons (news_of N' (.tail _ (.tail _ (.tail _ (.tail _ (.tail _ (.tail _ (.head _)))))))) (news_cons (news_of N' (.tail _ (.tail _ (.tail _ (.tail _ (.tail _ (.tail _ (.tail _ (.head _))))))))) (news_of N' (.tail _ (.tail _ (.tail _ (.tail _ (.tail _ (.tail _ (.tail _ (.tail _ (.head _)))))))))))))))))) hMS lMS hTM lTM ⟨lt.2.1, lt.2.2.1, lt.2.2.2.1, lt.2.2.2.2.1, lt.2.2.2.2.2.1, lt.2.2.2.2.2.2.1, lt.2.2.2.2.2.2.2⟩ (by simpa using d) lm.1 lm.2 hkM ⟨hc.1, by omega⟩ hkT zl1 yl1 v1 w2' w3') (fun _ _ h => h) fun e s2 h => rz1_mono h fun B g ⟨⟨o, go, ho⟩, _, w1, w2, w3, g2⟩ => ⟨o, _, go, g2, ho, w1, w2, w3, rfl⟩) l0 l1 l2 l3)
          (fun f s' h => stx_conv (Q := fun f m' h' => f = .next ∧ ExpP w DB MS TM c kT [e1, e2] m m' h') h i0 (by simp) fun m' ⟨p1, p2⟩ K => ?_) fun _ _ e => e
        rcases p2 with ⟨v, h, _⟩ | ⟨⟨o1, o2, g1, g2, r1, w1, w2', w3', r2⟩, p2, p3⟩
        · exact h.elim
        · exact ⟨p1, ExpP.two_r2 w2 w3 (by rw [hk1]; exact ⟨o1, g1, r1⟩) (bis_up bd fun o g => K _ _ (nn (by omega)) (Mine.ni2 (by omega) (by omega)) g) ⟨p2, p3⟩ (by rw [hk1]; exact ⟨K _ _ (nn (by omega)) (Mine.ni2 (by omega) (by omega)) gn1, w1, w2', w3', by rw [g2, r2]⟩) (nis_up ni2 (fun o g => K _ _ (nn (by omega)) (Mine.ni2 (by omega) (by omega)) g) fun o g => K _ _ (nn (by omega)) (Mine.ni2 (by omega) (by omega)) g)⟩
    | none =>
      have w3' := w3
      rw [nm2] at w3'
      rcases hl with ⟨hl1, hl2⟩ | ⟨⟨zl1, yl1, nl1⟩, zl2, yl2, nl2⟩
      · have hk1 := Nd.key_e hl1
        have hk2 := Nd.key_e hl2
        rw [hk1, nm1] at w3'
        have i0 : Old h₀ L [TM, DB, e1.d, e2.d] s.heap (L+1+1) := old_of F gcB (by omega) (Mine.ni4 (by omega) (by omega) (by omega) (by omega))
        refine wpAny_mono (lift_x F i0 fun x ox a b c' d => est4_b (n1 := e1.n) (d1 := e1.d) (n2 := e2.n) (d2 := e2.d) (Qe := fun _ _ => False) (a1 := x) (a2 := x) X T Bl F (NN x ox a b c') dcB hlt ⟨⟨c', b⟩, ⟨c', b⟩, c', b⟩ (fun s' m' F' N' => exp_ot_ok_e (C := 50) (PE := PQ x x fun _ _ => False) X T Bl F' (news_cons (news_of N' (.head _)) (news_cons (news_of N' (.tail _ (.head _))) (news_cons (news_of N' (.tail _ (.tail _ (.head _)))) (news_cons (news_of N' (.tail _ (.tail _ (.tail _ (.head _))))) (news_cons (news_of N' (.tail _ (.tail _ (.tail _ (.tail _ (.head _)))))) (news_cons (hl1 ▸ news_of N' (.tail _ (.tail _ (.tail _ (.tail _ (.tail _ (.head _))))))) (news_cons (news_of N' (.tail _ (.tail _ (.tail _ (.tail _ (.tail _ (.tail _ (.head _)))))))) (news_cons (hl2 ▸ news_of N' (.tail _ (.tail _ (.tail _ (.tail _ (.tail _ (.tail _ (.tail _ (.head _))))))))) (news_of N' (.tail _ (.tail _ (.tail _ (.tail _ (.tail _ (.tail _ (.tail _ (.tail _ (.head _)))))))))))))))))) hMS lMS hTM lTM ⟨lt.2.1, lt.2.2.1, lt.2.2.2.1, lt.2.2.2.2.1, lt.2.2.2.2.2.1, lt.2.2.2.2.2.2.1, lt.2.2.2.2.2.2.2⟩ (by simpa using d) lm.1 lm.2 hkM ⟨hc.1, by omega⟩ hkT v1 w2' w3') l0 l1 l2 l3)
          (fun f s' h => stx_conv (Q := fun f m' h' => f = .next ∧ ExpP w DB MS TM c kT [e1, e2] m m' h') h i0 (by simp) fun m' ⟨p1, p2⟩ K => ?_) fun _ _ e => e
        rcases p2 with ⟨v, ⟨_, p4, p5, p6, p7⟩, _, p9⟩ | ⟨⟨_, _, _, _, h⟩, _⟩
        · exact ⟨p1, ExpP.two_ok w2 w3 (by rw [hk1, nm1, hk2, nm2]; exact p4) p5 p9 (by rw [hk1, nm1]; exact p6) (by rw [hk2, nm2]; exact p7)⟩
        · exact h.elim
      · have hk1 := Nd.key_l nl1
        have hk2 := Nd.key_l nl2
        rw [hk1] at w3'
        have i0 : Old h₀ L [TM, DB, e1.d, e2.d] s.heap (L+1+1) := old_of F gcB (by omega) (Mine.ni4 (by omega) (by omega) (by omega) (by omega))
        refine wpAny_mono (lift_x F i0 fun x ox a b c' d => est4_b (n1 := e1.n) (d1 := e1.d) (n2 := e2.n) (d2 := e2.d) (Qe := fun _ _ => False) (a1 := x) (a2 := x) X T Bl F (NN x ox a b c') dcB hlt ⟨⟨c', b⟩, ⟨c', b⟩, c', b⟩ (fun s' m' F' N' => exp_ot_ok_l (C := 50) (PE := PQ x x fun _ _ => False) X T Bl F' (news_cons (news_of N' (.head _)) (news_cons (news_of N' (.tail _ (.head _))) (news_cons (news_of N' (.tail _ (.tail _ (.head _)))) (news_cons (news_of N' (.tail _ (.tail _ (.tail _ (.head _))))) (news_cons (news_of N' (.tail _ (.tail _ (.tail _ (.tail _ (.head _)))))) (news_cons (news_of N' (.tail _ (.tail _ (.tail _ (.tail _ (.tail _ (.head _))))))) (news_cons (news_of N' (.tail _ (.tail _ (.tail _ (.tail _ (.tail _ (.tail _ (.head _)))))))) (news_cons (news_of N' (.tail _ (.tail _ (.tail _ (.tail _ (.tail _ (.tail _ (.tail _ (.head _))))))))) (news_of N' (.tail _ (.tail _ (.tail _ (.tail _ (.tail _ (.tail _ (.tail _ (.tail _ (.head _)))))))))))))))))) hMS lMS hTM lTM ⟨lt.2.1, lt.2.2.1, lt.2.2.2.1, lt.2.2.2.2.1, lt.2.2.2.2.2.1, lt.2.2.2.2.2.2.1, lt.2.2.2.2.2.2.2⟩ (by simpa using d) lm.1 lm.2 hkM ⟨hc.1, by omega⟩ hkT zl1 yl1 zl2 yl2 v1 w2' w3') l0 l1 l2 l3)
          (fun f s' h => stx_conv (Q := fun f m' h' => f = .next ∧ ExpP w DB MS TM c kT [e1, e2] m m' h') h i0 (by simp) fun m' ⟨p1, p2⟩ K => ?_) fun _ _ e => e
        rcases p2 with ⟨v, ⟨_, p4, p5, p6, p7⟩, _, p9⟩ | ⟨⟨_, _, _, _, h⟩, _⟩
        · exact ⟨p1, ExpP.two_ok w2 w3 (by rw [hk1, hk2]; exact p4) p5 p9 (by rw [hk1]; exact p6) (by rw [hk2]; exact p7)⟩
        · exact h.elim
theorem e4_ot_a (F : Fr h₀ L s.heap m) (lt : L+1+1+1+1+1+1 < DB ∧ DB < B ∧ B < MS ∧ MS < P ∧ P < e1.d ∧ e1.d < e1.n ∧ e1.n < e2.d ∧ e2.d < e2.n) (cB : CIs s.heap (L+1+1) (.ref B)) (gB : s.heap.get? B = some (instObj 121 DB)) (bd : BIs w s.heap DB MS c) (dM : DIs w s.heap MS kM)
    {oP : Obj} (gP : s.heap.get? P = some oP) (hkM : kM.length ≤ 1000) (hc : 0 ≤ c ∧ c < 900) (lm : ((mod.length : Int) != 0) = true ∧ mod.length ≤ 1000) (ni1 : NIs w s.heap e1.n e1.d e1.tp e1.lab) (ni2 : NIs w s.heap e2.n e2.d e2.tp e2.lab) (nm1 : e1.nm = (Str.ofString "one")) (nm2 : e2.nm = (Str.ofString "two")) (hl : (e1.lab = Str.ofString "" ∧ e2.lab = Str.ofString "") ∨ ((((e1.lab.length : Int) != 0) = true ∧ e1.lab.length ≤ 1000 ∧ e1.lab ≠ Str.ofString "") ∧ (((e2.lab.length : Int) != 0) = true ∧ e2.lab.length ≤ 1000 ∧ e2.lab ≠ Str.ofString "")))
    (gN : s.heap.get? NM = some (W.listOf #[.str (Str.ofString "one") t4, .str (Str.ofString "two") t3] cN)) (lN : L < NM) (nO : News h₀ L s.heap [(NO, W.listOf #[.ref e1.n, .ref e2.n] cO)]) (l0 : m nNames = some (.ref NM)) (l1 : m nNodes = some (.ref NO)) (l2 : m nModule = some (.str mod t1)) (l3 : m nTold = some (.str (Str.ofString "done") t2))
    (v1 : valueAt kM mod = none) (k12 : e1.key ≠ e2.nm) (E : Value → Shared → Prop) :
    wpAny (model prg w) (callerA.deeper (envLaw fa L)) (exec (est 4) (envLaw fa L)) (StX h₀ L [MS, DB, e1.d, e2.d] (fun x f m' h' => f = .next ∧ ∃ TM : Nat, x < TM ∧ DIs w h' MS (stored kM mod (.ref TM)) ∧ ExpP w DB MS TM c [] [e1, e2] m m' h' ∧ (puts vN [] [e1, e2]).2 = true) s) E s := by
  obtain ⟨oB, gcB, dcB⟩ := cB
  obtain ⟨q1, q2, q3, ct, tN, gDB⟩ := id bd
  obtain ⟨oMS, gMS, hMS, lMS⟩ := id dM
  obtain ⟨gn1, u1, u2, u3, gd1⟩ := id ni1
  obtain ⟨gn2, y1, y2, y3, gd2⟩ := id ni2
  have NN : ∀ x ox, s.heap.get? x = some ox → h₀.get? x = none → x ≠ L → News h₀ L s.heap [(L+1+1, oB), (B, instObj 121 DB), (DB, bD w q1 q2 q3 (.int c ct) tN MS), (MS, oMS), (P, oP), (e1.n, instObj 170 e1.d), (e1.d, nD w u1 u2 u3 e1.tp e1.lab), (e2.n, instObj 170 e2.d), (e2.d, nD w y1 y2 y3 e2.tp e2.lab), (NM, W.listOf #[.str (Str.ofString "one") t4, .str (Str.ofString "two") t3] cN), (NO, W.listOf #[.ref e1.n, .ref e2.n] cO), (x, ox)] := fun x ox a b c' =>
    news_c F gcB (by omega) (news_c F gB (by omega) (news_c F gDB (by omega) (news_c F gMS (by omega) (news_c F gP (by omega) (news_c F gn1 (by omega) (news_c F gd1 (by omega) (news_c F gn2 (by omega) (news_c F gd2 (by omega) (news_c F gN lN (news_cons nO (news_1 a b c')))))))))))
  have hlt : L+1+1 < DB ∧ DB < B := by omega
  have v3 : valueAt (stored [] e1.key (.ref e1.n)) e2.nm = none := by rw [val_ne _ _ (Ne.symm k12)]; rfl
  rcases hl with ⟨hl1, hl2⟩ | ⟨⟨zl1, yl1, nl1⟩, zl2, yl2, nl2⟩
  · have hk1 := Nd.key_e hl1
    have hk2 := Nd.key_e hl2
    have v3' := v3
    rw [hk1, nm1, nm2] at v3'
    have i0 : Old h₀ L [MS, DB, e1.d, e2.d] s.heap (L+1+1) := old_of F gcB (by omega) (Mine.ni4 (by omega) (by omega) (by omega) (by omega))
    refine wpAny_mono (lift_x F i0 fun x ox a b c' d => est4_b (n1 := e1.n) (d1 := e1.d) (n2 := e2.n) (d2 := e2.d) (Qe := fun _ _ => False) (a1 := x) (a2 := x) X T Bl F (NN x ox a b c') dcB hlt ⟨⟨c', b⟩, ⟨c', b⟩, c', b⟩ (fun s' m' F' N' => exp_ot_new_e (C := 50) (PE := PQ x x fun _ _ => False) X T Bl F' (news_cons (news_of N' (.head _)) (news_cons (news_of N' (.tail _ (.head _))) (news_cons (news_of N' (.tail _ (.tail _ (.head _)))) (news_cons (news_of N' (.tail _ (.tail _ (.tail _ (.tail _ (.head _)))))) (news_cons (hl1 ▸ news_of N' (.tail _ (.tail _ (.tail _ (.tail _ (.tail _ (.head _))))))) (news_cons (news_of N' (.tail _ (.tail _ (.tail _ (.tail _ (.tail _ (.tail _ (.head _)))))))) (news_cons (hl2 ▸ news_of N' (.tail _ (.tail _ (.tail _ (.tail _ (.tail _ (.tail _ (.tail _ (.head _))))))))) (news_of N' (.tail _ (.tail _ (.tail _ (.tail _ (.tail _ (.tail _ (.tail _ (.tail _ (.head _))))))))))))))))) hMS lMS ⟨lt.2.1, lt.2.2.1, by omega, lt.2.2.2.2.2.1, lt.2.2.2.2.2.2.1, lt.2.2.2.2.2.2.2⟩ (by simpa using d) lm.1 lm.2 hkM ⟨hc.1, by omega⟩  v1 v3') l0 l1 l2 l3)
      (fun f s' h => ?_) fun _ _ e => e
    obtain ⟨m', lk, F', K', hp⟩ := h
    refine ⟨m', lk, F', K', fun x hx => ?_⟩
    obtain ⟨p1, p2⟩ := hp x hx
    rcases p2 with ⟨v, ⟨_, TM, p3, p4, p5, p6, p7⟩, p8, p9⟩ | ⟨⟨_, _, _, _, h⟩, _⟩
    · refine ⟨p1, TM, p8 TM (dAt_of p3 (val_self _ _ _)), p3, ?_, ?_⟩
      · exact ExpP.two_ok rfl v3 (by rw [hk1, hk2, nm1, nm2]; exact p4) p5 p9 (by rw [hk1, nm1]; exact p6) (by rw [hk2, nm2]; exact p7)
      · have e0 : puts vN [] [e1] = (stored [] e1.key (.ref e1.n), true) := by simp [puts, put, valueAt]
        rw [show puts vN [] [e1, e2] = put vN (puts vN [] [e1]) e2 from rfl, e0]; simp [put, v3]
    · exact h.elim
  · have hk1 := Nd.key_l nl1
    have hk2 := Nd.key_l nl2
    have v3' := v3
    rw [hk1, nm2] at v3'
    have i0 : Old h₀ L [MS, DB, e1.d, e2.d] s.heap (L+1+1) := old_of F gcB (by omega) (Mine.ni4 (by omega) (by omega) (by omega) (by omega))
    refine wpAny_mono (lift_x F i0 fun x ox a b c' d => est4_b (n1 := e1.n) (d1 := e1.d) (n2 := e2.n) (d2 := e2.d) (Qe := fun _ _ => False) (a1 := x) (a2 := x) X T Bl F (NN x ox a b c') dcB hlt ⟨⟨c', b⟩, ⟨c', b⟩, c', b⟩ (fun s' m' F' N' => exp_ot_new_l (C := 50) (PE := PQ x x fun _ _ => False) X T Bl F' (news_cons (news_of N' (.head _)) (news_cons (news_of N' (.tail _ (.head _))) (news_cons (news_of N' (.tail _ (.tail _ (.head _)))) (news_cons (news_of N' (.tail _ (.tail _ (.tail _ (.tail _ (.head _)))))) (news_cons (news_of N' (.tail _ (.tail _ (.tail _ (.tail _ (.tail _ (.head _))))))) (news_cons (news_of N' (.tail _ (.tail _ (.tail _ (.tail _ (.tail _ (.tail _ (.head _)))))))) (news_cons (news_of N' (.tail _ (.tail _ (.tail _ (.tail _ (.tail _ (.tail _ (.tail _ (.head _))))))))) (news_of N' (.tail _ (.tail _ (.tail _ (.tail _ (.tail _ (.tail _ (.tail _ (.tail _ (.head _))))))))))))))))) hMS lMS ⟨lt.2.1, lt.2.2.1, by omega, lt.2.2.2.2.2.1, lt.2.2.2.2.2.2.1, lt.2.2.2.2.2.2.2⟩ (by simpa using d) lm.1 lm.2 hkM ⟨hc.1, by omega⟩  zl1 yl1 zl2 yl2 v1 v3') l0 l1 l2 l3)
      (fun f s' h => ?_) fun _ _ e => e
    obtain ⟨m', lk, F', K', hp⟩ := h
    refine ⟨m', lk, F', K', fun x hx => ?_⟩
    obtain ⟨p1, p2⟩ := hp x hx
    rcases p2 with ⟨v, ⟨_, TM, p3, p4, p5, p6, p7⟩, p8, p9⟩ | ⟨⟨_, _, _, _, h⟩, _⟩
    · refine ⟨p1, TM, p8 TM (dAt_of p3 (val_self _ _ _)), p3, ?_, ?_⟩
      · exact ExpP.two_ok rfl v3 (by rw [hk1, hk2]; exact p4) p5 p9 (by rw [hk1]; exact p6) (by rw [hk2]; exact p7)
      · have e0 : puts vN [] [e1] = (stored [] e1.key (.ref e1.n), true) := by simp [puts, put, valueAt]
        rw [show puts vN [] [e1, e2] = put vN (puts vN [] [e1]) e2 from rfl, e0]; simp [put, v3]
    · exact h.elim
end
end Mine
namespace Mine
theorem TupNum.same {h : Heap} {t : Nat} {a b : Int} (x : TupNum h t a) (y : TupNum h t b) : a = b := by
  obtain ⟨c1, c2, c3, c4⟩ := x
  obtain ⟨d1, d2, d3, d4⟩ := y
  rw [c4] at d4
  have h := congrArg (fun o : Option Obj => o.map (·.data)) d4
  simp at h
  exact h.1.2.1
theorem val_mem {kvs : List (Str × Value)} {k : Str} {v : Value} (h : valueAt kvs k = some v) : v ∈ kvs.map (·.2) := by
  unfold valueAt at h
  obtain ⟨p, hp, rfl⟩ := Option.map_eq_some_iff.mp h
  exact List.mem_map.mpr ⟨p, List.mem_of_find?_eq_some hp, rfl⟩
theorem mem_val {kvs : List (Str × Value)} (hn : (kvs.map (·.1)).Nodup) {v : Value} (h : v ∈ kvs.map (·.2)) : ∃ k, valueAt kvs k = some v := by
  obtain ⟨p, hp, rfl⟩ := List.mem_map.mp h
  obtain ⟨i, hi⟩ := List.getElem?_of_mem hp
  exact ⟨p.1, valueAt_of_get hn (by rw [hi])⟩
theorem doneAt_par {v v' : Nd → Value} {kT kV : List (Str × Value)} {es : List Nd} (hk : kT.map (·.1) = kV.map (·.1)) (i : Nat) : doneAt v kT es i = doneAt v' kV es i := (puts_par hk).2
section
variable {w : World} {s : Shared} {h₀ : Heap} {mg mb m : Str → Option Value} {loose : List Str} {mean : ExcName → Option Value} {fa L f cc B DB MS P I sc U TB NM NO LB : Nat} {dc pm ct : Value} {oc : Obj} {oI : Option Obj} {n c : Int} {kM kP : List (Str × Value)} {tt tv : Str → List (Str × Value)} {mod : Str} {kV0 : List (Str × Value)}
    (X : (hd.heap_39 w.params).In h₀) (T : Top topProg loose mean mg mb h₀) (Bl : Below callerA h₀ [] h₀)
include X T Bl
theorem exp_rest (F : Fr h₀ L s.heap m) (C : Core w fa L f cc B DB MS P I sc dc pm ct oc oI U n c kM kP tt tv s.heap) (hn : 0 ≤ n ∧ n ≤ 100) (hU : U ≤ TB)
    (cT : CIs s.heap (L+1+1+1+1+1+1) (.ref TB)) (dTB : DIs w s.heap TB kV0) (hV0 : (valueAt kP mod = none ∧ kV0 = []) ∨ (∃ v, valueAt kP mod = some v ∧ kV0 = tv mod))
    {t1 : Tok} (l1 : m nModule = some (.str mod t1)) (told : ∃ t, m nTold = some (.str (Str.ofString "done") t)) (due : ∃ t, m nDue = some (.str (Str.ofString "done") t))
    {es : List Nd} {xs ys zs : Array Value} {cN cO cL : Nat} (hes : es.length ≤ 2)
    (nN : News h₀ L s.heap [(NM, W.listOf xs cN)]) (nO : News h₀ L s.heap [(NO, W.listOf ys cO)]) (nL : News h₀ L s.heap [(LB, W.listOf zs cL)])
    (aN : TB < NM ∧ NM ∉ es.map (·.d)) (aO : NO ≠ TB ∧ NO ≠ MS ∧ NO ≠ DB ∧ NO ∉ es.map (·.d) ∧ ∀ TM : Nat, valueAt kM mod = some (.ref TM) → NO ≠ TM) (aL : LB ≠ TB ∧ LB ≠ MS ∧ LB ≠ DB ∧ LB ∉ es.map (·.d) ∧ ∀ TM : Nat, valueAt kM mod = some (.ref TM) → LB ≠ TM)
    (zx : xs.size = es.length) (zy : ys.size = es.length) (zz : zs.size = es.length)
    (hx : ∀ (i : Nat) (e : Nd), es[i]? = some e → (∃ t, xs[i]? = some (Value.str e.nm t)) ∧ ys[i]? = some (Value.ref e.n) ∧ ∃ t, zs[i]? = some (Value.str e.lab t))
    (nodes : ∀ e ∈ es, NIs w s.heap e.n e.d e.tp e.lab ∧ TB < e.tp ∧ e.tp < e.d ∧ e.d < e.n ∧ e.lab.length ≤ 1000 ∧ e.nm.length ≤ 1000 ∧ TupNum s.heap e.tp e.num ∧ n ≤ e.num ∧ e.num < n + 2)
    (apart : ∀ e ∈ es, ∀ e' ∈ es, e.tp ≠ e'.d ∧ e.n ≠ e'.d)
    (pk : es.Pairwise fun a b => a.key ≠ b.key) (pn : es.Pairwise fun a b => a.num ≠ b.num)
    (l0 : m nNames = some (.ref NM)) (l0' : m nNodes = some (.ref NO)) (l0'' : m nLabels = some (.ref LB))
    (st4 : ∀ (s' : Shared) (m' : Str → Option Value), Fr h₀ L s'.heap m' → Keeps L [TB] s.heap s'.heap → m' nNames = m nNames → m' nNodes = m nNodes → m' nModule = m nModule → m' nTold = m nTold → ∀ E,
      (∀ TM : Nat, valueAt kM mod = some (.ref TM) → wpAny (model prg w) (callerA.deeper (envLaw fa L)) (exec (est 4) (envLaw fa L)) (StX h₀ L (DB :: TM :: es.map (·.d)) (fun _ f m'' h' => f = .next ∧ ExpP w DB MS TM c (tt mod) es m' m'' h') s') E s') ∧
      (valueAt kM mod = none → wpAny (model prg w) (callerA.deeper (envLaw fa L)) (exec (est 4) (envLaw fa L)) (StX h₀ L (MS :: DB :: es.map (·.d)) (fun x f m'' h' => f = .next ∧ ∃ TM : Nat, x < TM ∧ DIs w h' MS (stored kM mod (.ref TM)) ∧ ExpP w DB MS TM c [] es m' m'' h' ∧ (puts vN [] es).2 = true) s') E s')) (E : Value → Shared → Prop) :
    wpAny (model prg w) (callerA.deeper (envLaw fa L)) (execs [est 3, est 4, est 5, est 6] (envLaw fa L)) (BrPost w h₀ fa L f cc B DB MS P I sc dc pm ct oc oI (n + 2) c m s) E s := by
  have lt := C.lt
  obtain ⟨oP, gcP, dcP⟩ := C.cP
  obtain ⟨oT, gcT, dcT⟩ := id cT
  have lP : kP.length ≤ 1000 := by have := C.lenP; omega
  have hlenV : kV0.length ≤ 100 := by
    rcases hV0 with ⟨_, rfl⟩ | ⟨v, hv, rfl⟩
    · simp
    · obtain ⟨u, hu⟩ := val_some_par C.keys hv
      obtain ⟨TM, PT, _, _, tb⟩ := C.tabs mod u v hu hv
      have := tb.len
      have := len_par tb.keys
      omega
  have dlow : ∀ d ∈ es.map (·.d), TB < d := fun d hd => by
    obtain ⟨e, he, rfl⟩ := List.mem_map.mp hd
    have := nodes e he
    omega
  have gTBs : TB < s.heap.objs.size := by obtain ⟨o, g, _⟩ := dTB; exact ltn g
  -- est 3
  have i0 : Old h₀ L [TB] s.heap (L+1+1+1) := old_of F gcP (by omega) (ni1 (by omega))
  refine seq (est3_loop X T Bl F nN nO nL (by omega) aO.1 aL.1 zx zy zz hx (fun e he => by have := nodes e he; exact ⟨this.1, by omega, by omega, this.2.2.2.2.1⟩) cT dTB (by omega) (by omega) (by omega) due l0 l0' l0'' _) i0 (fun _ _ _ _ h => h.1) fun s₁ m₁ lk₁ F₁ K₁ hP₁ => ?_
  obtain ⟨_, dTB₁, due₁, hm₁⟩ := hP₁ _ i0
  have g1 : ∀ (b : Nat) o, b ≠ L → b ≠ TB → s.heap.get? b = some o → s₁.heap.get? b = some o := fun b o n n' e => K₁ b o n (ni1 n') e
  have S4 := st4 s₁ m₁ F₁ K₁ (hm₁ _ (by decide +kernel)) (hm₁ _ (by decide +kernel)) (hm₁ _ (by decide +kernel)) (hm₁ _ (by decide +kernel))
  -- what stands behind est 4
  have next : ∀ (s₂ : Shared) (m₂ : Str → Option Value) (TM : Nat) (kM' kT0 : List (Str × Value)), Like s₁ s₂ → Fr h₀ L s₂.heap m₂ → (∀ (b : Nat) o, b ≠ L → b ≠ MS → b ≠ DB → (∀ d : Nat, valueAt kM mod = some (.ref d) → b ≠ d) → b ∉ es.map (·.d) → s₁.heap.get? b = some o → s₂.heap.get? b = some o) →
      ((kM' = kM ∧ valueAt kM mod = some (.ref TM)) ∨ (kM' = stored kM mod (.ref TM) ∧ valueAt kM mod = none ∧ U ≤ TM)) → (valueAt kM mod = some (.ref TM) ∨ (TB < TM ∧ ∀ e ∈ es, e.n < TM ∧ e.d < TM ∧ e.tp < TM)) → P < TM → kT0.map (·.1) = kV0.map (·.1) → (kT0.length : Int) ≤ n → (∀ nm u, valueAt kT0 nm = some u → nm.length ≤ 1000) →
      (∀ nm a b, valueAt kT0 nm = some a → valueAt kV0 nm = some b → Rel w P U n kM s.heap a b) → DIs w s₂.heap MS kM' → ExpP w DB MS TM c kT0 es m₁ m₂ s₂.heap →
      wpAny (model prg w) (callerA.deeper (envLaw fa L)) (execs [est 5, est 6] (envLaw fa L)) (BrPost w h₀ fa L f cc B DB MS P I sc dc pm ct oc oI (n + 2) c m s) E s₂ := by
    intro s₂ m₂ TM kM' kT0 lk₂ F₂ k2 hM hTM lPT kk lenT shT relT dM₂ ⟨dT₂, ok₂, no₂, nd₂⟩
    have par := puts_par (vN := vN) (vP := vP) (es := es) kk
    have low : ∀ d : Nat, valueAt kM mod = some (.ref d) → P < d ∧ d < U := fun d hd => by
      obtain ⟨v, hv⟩ := val_some_par C.keys.symm hd
      obtain ⟨TM', PT, e1, e2, tb⟩ := C.tabs mod _ v hd hv
      cases e1; exact tb.l1
    have g2 : ∀ (b : Nat) o, b ≠ L → b ≠ TB → b ≠ MS → b ≠ DB → (∀ d : Nat, valueAt kM mod = some (.ref d) → b ≠ d) → b ∉ es.map (·.d) → s.heap.get? b = some o → s₂.heap.get? b = some o := fun b o n n' a1 a2 a3 a4 e => k2 b o n a1 a2 a3 a4 (g1 b o n n' e)
    have offLow : ∀ b : Nat, b ≤ P → (∀ d : Nat, valueAt kM mod = some (.ref d) → b ≠ d) ∧ b ∉ es.map (·.d) := fun b hb => ⟨fun d hd e => by have := low d hd; omega, fun hm => by have := dlow _ hm; omega⟩
    have g2l : ∀ (b : Nat) o, b ≠ L → b ≠ MS → b ≠ DB → b ≤ P → s.heap.get? b = some o → s₂.heap.get? b = some o := fun b o n a1 a2 hb e => g2 b o n (by omega) a1 a2 (offLow b hb).1 (offLow b hb).2 e
    have gTB₂ : ∀ o, s₁.heap.get? TB = some o → s₂.heap.get? TB = some o := fun o e => k2 TB o (by omega) (by omega) (by omega) (fun d hd e => by have := low d hd; omega) (fun hm => by have := dlow _ hm; omega) e
    have dTB₂ : DIs w s₂.heap TB (puts vP kV0 es).1 := dis_up dTB₁ fun o e => gTB₂ o e
    have hmN : ∀ y, y ≠ nTold → m₂ y = m₁ y := fun y hy => by
      cases hb : (puts vN kT0 es).2 with
      | true => exact (ok₂ hb).2 y
      | false => exact (no₂ hb).2.2 y hy
    have e2 : ∀ y, y ≠ nTold ∧ y ≠ nName ∧ y ≠ nNode ∧ y ≠ nLabel ∧ y ≠ nDue → m₂ y = m y := fun y hy => (hmN y hy.1).trans (hm₁ y hy.2)
    have told₂ : ∃ t, m₂ nTold = some (.str (txt (puts vN kT0 es).2) t) := by
      cases hb : (puts vN kT0 es).2 with
      | true =>
        obtain ⟨t, h⟩ := told
        exact ⟨t, ((ok₂ hb).2 _).trans ((hm₁ _ (by decide +kernel)).trans h)⟩
      | false => exact (no₂ hb).2.1
    have bd₂ : BIs w s₂.heap DB MS (c + if (puts vN kT0 es).2 then 1 else 0) := by
      cases hb : (puts vN kT0 es).2 with
      | true => simpa using (ok₂ hb).1
      | false => simpa using (no₂ hb).1
    have due₂ : ∃ t, m₂ nDue = some (.str (txt (puts vN kT0 es).2) t) := due₁.imp fun t h => (hmN _ (by decide +kernel)).trans (by rw [par.2]; exact h)
    have nN₂ : News h₀ L s₂.heap [(NM, W.listOf xs cN)] := fun p hp => by
      rw [List.mem_singleton.mp hp]
      have := nN _ (.head _)
      exact ⟨g2 NM _ this.2.1 (by omega) (by omega) (by omega) (fun d hd e => by have := low d hd; omega) aN.2 this.1, this.2⟩
    have nO₂ : News h₀ L s₂.heap [(NO, W.listOf ys cO)] := fun p hp => by
      rw [List.mem_singleton.mp hp]
      have := nO _ (.head _)
      exact ⟨g2 NO _ this.2.1 aO.1 aO.2.1 aO.2.2.1 aO.2.2.2.2 aO.2.2.2.1 this.1, this.2⟩
    have nL₂ : News h₀ L s₂.heap [(LB, W.listOf zs cL)] := fun p hp => by
      rw [List.mem_singleton.mp hp]
      have := nL _ (.head _)
      exact ⟨g2 LB _ this.2.1 aL.1 aL.2.1 aL.2.2.1 aL.2.2.2.2 aL.2.2.2.1 this.1, this.2⟩
    have tup₂ : ∀ e ∈ es, TupNum s₂.heap e.tp e.num := fun e he => by
      have := nodes e he
      exact this.2.2.2.2.2.2.1.up fun o g => g2 e.tp o (by omega) (by omega) (by omega) (by omega) (fun d hd q => by have := low d hd; omega) (fun hm => by
        obtain ⟨e', he', q⟩ := List.mem_map.mp hm
        exact (apart e he e' he').1 q.symm) g
    -- an old pair's word stays
    have relUp : ∀ {h' : Heap} {U' : Nat}, U ≤ U' → (∀ (y : Nat) o, P < y → y < U → Free kM y → s.heap.get? y = some o → h'.get? y = some o) → ∀ a b, Rel w P U n kM s.heap a b → Rel w P U' (n + 2) kM' h' a b := fun {h' U'} hUU hk a b r => r.up (by omega) fun y o g p1 p2 p3 => ⟨hk y o p1 p2 p3 g, by omega, free_new hM p2 p3⟩
    have keepOld : ∀ (y : Nat) o, P < y → y < U → Free kM y → s.heap.get? y = some o → s₂.heap.get? y = some o := fun y o p1 p2 p3 g => g2 y o (by omega) (by omega) (by omega) (by omega) (fun d hd e => p3 mod (e ▸ hd)) (fun hm => by have := dlow _ hm; omega) g
    -- the values of the plain table
    have ndV : ((puts vP kV0 es).1.map (·.1)).Nodup := dis_nodup dTB₂
    have vals : ∀ y, y ∈ (puts vP kV0 es).1.map (·.2) → (∃ (ty : Nat) (k : Int), y = .ref ty ∧ L < ty ∧ TupNum s₂.heap ty k ∧ k < n) ∨ ∃ (i : Nat) (e : Nd), es[i]? = some e ∧ doneAt vN kT0 es i = true ∧ y = .ref e.tp := fun y hy => by
      obtain ⟨nm, hnm⟩ := mem_val ndV hy
      rcases puts_vals hnm with h | ⟨i, e, h1, h2, h3⟩
      · obtain ⟨u, hu⟩ := val_some_par kk h
        obtain ⟨nd, d, tp, lab, num, _, e2, _, tn, hlt, _, _, c1, c2, c3⟩ := relT nm u y hu h
        exact .inl ⟨tp, num, e2, by omega, tn.up (fun o g => keepOld _ _ c1 c2 c3 g), hlt⟩
      · exact .inr ⟨i, e, h1, (doneAt_par kk i).trans h2, h3⟩
    have i2 : Old h₀ L [] s₂.heap (L+1+1+1) := old_of F₂ (g2l _ _ (by omega) (by omega) (by omega) (by omega) gcP) (by omega) (by simp)
    have gcT₂ := g2l _ _ (by omega) (by omega) (by omega) (by omega) gcT
    have lenV : (puts vP kV0 es).1.length ≤ 1000 := Nat.le_trans puts_len (by omega)
    refine seq (est5_loop X T Bl F₂ (es := es) (bs := doneAt vN kT0 es) (kV := (puts vP kV0 es).1) nN₂ nO₂ nL₂ zx zy zz hx (fun i e he => ?_) (fun y hy => ?_) ⟨oT, gcT₂, dcT⟩ dTB₂ (by omega) lenV ((e2 _ (by decide +kernel)).trans l0) ((e2 _ (by decide +kernel)).trans l0') ((e2 _ (by decide +kernel)).trans l0'') _) i2 (fun _ _ _ _ h => h.1) fun s₃ m₃ lk₃ F₃ K₃ hP₃ => ?_
    · have he' := List.mem_of_getElem? he
      have nd := nodes e he'
      refine ⟨nd₂ i e he, tup₂ e he', by omega, by omega, by omega, ?_⟩
      cases hb : doneAt vN kT0 es i with
      | true =>
        have hb' : doneAt vP kV0 es i = true := (doneAt_par kk i).symm.trans hb
        exact .inl ⟨rfl, val_mem (puts_mem pk he hb')⟩
      | false =>
        refine .inr ⟨rfl, fun ty k hm hn => ?_⟩
        rcases vals _ hm with ⟨ty', k', q1, _, q2, q3⟩ | ⟨j, e', h1, h2, h3⟩
        · cases q1
          have := hn.same q2
          omega
        · cases h3
          have hk : k = e'.num := hn.same (tup₂ e' (List.mem_of_getElem? h1))
          have hij : i ≠ j := fun q => by subst q; rw [hb] at h2; cases h2
          rw [hk]
          have li := (List.getElem?_eq_some_iff.mp he)
          have lj := (List.getElem?_eq_some_iff.mp h1)
          obtain ⟨hi, ei⟩ := li
          obtain ⟨hj, ej⟩ := lj
          rw [← ei, ← ej]
          rcases Nat.lt_or_gt_of_ne hij with h | h
          · exact Ne.symm (List.pairwise_iff_getElem.mp pn i j hi hj h)
          · exact List.pairwise_iff_getElem.mp pn j i hj hi h
    · rcases vals y hy with ⟨ty, k, q1, q2, q3, _⟩ | ⟨i, e, h1, _, h3⟩
      · exact ⟨ty, k, q1, q2, q3⟩
      · have he' := List.mem_of_getElem? h1
        have nd := nodes e he'
        exact ⟨e.tp, e.num, h3, by omega, tup₂ e he'⟩
    obtain ⟨_, hm₃⟩ := hP₃ _ i2
    have k3 : ∀ (b : Nat) o, b ≠ L → s₂.heap.get? b = some o → s₃.heap.get? b = some o := fun b o n e => K₃ b o n (by simp) e
    have e3 : ∀ y, y ≠ nTold ∧ y ≠ nName ∧ y ≠ nNode ∧ y ≠ nLabel ∧ y ≠ nDue ∧ y ≠ nDone → m₃ y = m y := fun y hy => (hm₃ y ⟨hy.2.1, hy.2.2.1, hy.2.2.2.1, hy.2.2.2.2.2⟩).trans (e2 y ⟨hy.1, hy.2.1, hy.2.2.1, hy.2.2.2.1, hy.2.2.2.2.1⟩)
    -- est 6
    obtain ⟨oPT, gPT, hPT, lPs⟩ := C.dP
    have i3 : Old h₀ L [P] s₃.heap (L+1+1+1) := old_of F₃ (k3 _ _ (by omega) (g2l _ _ (by omega) (by omega) (by omega) (by omega) gcP)) (by omega) (ni1 (by omega))
    refine last (lift_x F₃ i3 fun x ox a b c' d => est6 X T Bl F₃ (news_c F₃ (k3 _ _ (by omega) (g2l _ _ (by omega) (by omega) (by omega) (by omega) gcP)) (by omega) (news_c F₃ (k3 _ _ (by omega) gcT₂) (by omega) (news_c F₃ (k3 _ _ (by omega) (g2l _ _ (by omega) (by omega) (by omega) (by omega) gPT)) (by omega) (news_1 a b c')))) dcP dcT hPT lPs lP (by omega) (by simpa using d) ((e3 _ (by decide +kernel)).trans l1)) i3 (fun _ _ _ _ h => h.1) fun s₄ m₄ lk₄ F₄ K₄ hP₄ => ?_
    obtain ⟨_, hm₄, dP₄⟩ := hP₄ _ i3
    have k4 : ∀ (b : Nat) o, b ≠ L → b ≠ P → s₂.heap.get? b = some o → s₄.heap.get? b = some o := fun b o n n' e => K₄ b o n (ni1 n') (k3 b o n e)
    have e4 : ∀ y, y ≠ nTold ∧ y ≠ nName ∧ y ≠ nNode ∧ y ≠ nLabel ∧ y ≠ nDue ∧ y ≠ nDone → m₄ y = m y := fun y hy => (hm₄ y).trans (e3 y hy)
    have dT₄ : DIs w s₄.heap TM (puts vN kT0 es).1 := dis_up dT₂ fun o e => k4 _ _ (by omega) (by omega) e
    have dTB₄ : DIs w s₄.heap TB (puts vP kV0 es).1 := dis_up dTB₂ fun o e => k4 _ _ (by omega) (by omega) e
    have sTM : TM < s₄.heap.objs.size := by obtain ⟨o, g, _⟩ := dT₄; exact ltn g
    have sTB : TB < s₄.heap.objs.size := by obtain ⟨o, g, _⟩ := dTB₄; exact ltn g
    have nd₄ : ∀ (i : Nat) (e : Nd), es[i]? = some e → ∃ lab, NIs w s₄.heap e.n e.d e.tp lab := fun i e he => by
      have nd := nodes e (List.mem_of_getElem? he)
      exact ⟨_, nis_up (nd₂ i e he) (fun o g => k4 _ _ (by omega) (by omega) g) fun o g => k4 _ _ (by omega) (by omega) g⟩
    have tup₄ : ∀ e ∈ es, TupNum s₄.heap e.tp e.num := fun e he => by
      have nd := nodes e he
      exact (tup₂ e he).up fun o g => k4 _ _ (by omega) (by omega) g
    have freeBig : ∀ y : Nat, TB ≤ y → (valueAt kM mod = some (.ref TM) ∨ y < TM) → Free kM' y := fun y hy ht mod' e => by
      rcases hM with ⟨rfl, _⟩ | ⟨rfl, hnone, _⟩
      · exact C.free_big (by omega) mod' e
      · rcases val_stored e with ⟨_, q⟩ | ⟨_, q⟩
        · cases q
          rcases ht with h | h
          · rw [hnone] at h; cases h
          · omega
        · exact C.free_big (by omega) mod' q
    have K : Keeps L (MS :: DB :: TB :: P :: (TM :: es.map (·.d))) s.heap s₄.heap := fun b o n hd e => by
      simp only [List.mem_cons, not_or] at hd
      obtain ⟨a1, a2, a3, a4, a5, a6⟩ := hd
      refine k4 b o n a4 (g2 b o n a3 a1 a2 (fun d hd q => ?_) a6 e)
      rcases hM with ⟨_, h⟩ | ⟨_, h, _⟩
      · rw [h] at hd; cases hd; exact a5 q
      · rw [h] at hd; cases hd
    obtain ⟨tt3, told₂⟩ := told₂
    obtain ⟨td3, due₂⟩ := due₂
    refine ⟨rfl, m₄, _, s₄.heap.objs.size, kM', stored kP mod (.ref TB), upd tt mod (puts vN kT0 es).1, upd tv mod (puts vP kV0 es).1, ((lk₁.trans lk₂).trans lk₃).trans lk₄, F₄, ?_, ⟨tt3, (hm₄ _).trans ((hm₃ _ (by decide +kernel)).trans told₂)⟩, ⟨td3, (hm₄ _).trans ((hm₃ _ (by decide +kernel)).trans due₂)⟩, e4 _ (by decide +kernel), e4 _ (by decide +kernel), fun a o ha e => k4 _ _ (by omega) (by omega) (g2l _ _ (by omega) (by omega) (by omega) (by omega) e)⟩
    refine C.set K (fun d hd => ?_) (by omega) (by omega) hM (dis_up dM₂ fun o e => k4 _ _ (by omega) (by omega) e) dP₄ (bis_up bd₂ fun o e => k4 _ _ (by omega) (by omega) e) ?_ ?_
    · simp only [List.mem_cons] at hd
      rcases hd with rfl | rfl | rfl | rfl | rfl | hd
      · exact .inr (.inr (.inr (.inl rfl)))
      · exact .inr (.inr (.inr (.inr (.inl rfl))))
      · exact .inr (.inr (.inr (.inr (.inr (.inr (.inr hU))))))
      · exact .inr (.inr (.inr (.inr (.inr (.inl rfl)))))
      · rcases hM with ⟨_, h⟩ | ⟨_, _, h⟩
        · exact .inr (.inr (.inr (.inr (.inr (.inr (.inl h))))))
        · exact .inr (.inr (.inr (.inr (.inr (.inr (.inr h))))))
      · have := dlow _ hd
        exact .inr (.inr (.inr (.inr (.inr (.inr (.inr (by omega)))))))
    · have h1 : (stored kP mod (.ref TB)).length ≤ kP.length + 1 := stored_length_le ..
      have := C.lenP
      omega
    · refine ⟨⟨lPT, sTM⟩, ⟨by omega, sTB, freeBig TB (Nat.le_refl _) (hTM.imp id And.left)⟩, dT₄, dTB₄, par.1, ?_, fun nm u h => ?_, ?_⟩
      · have h1 := puts_len (v := vN) (kT := kT0) (es := es)
        omega
      · refine puts_rel (vN := vN) (vP := vN) (R := fun nm _ _ => nm.length ≤ 1000) (kT := kT0) (kV := kT0) (es := es) rfl (fun nm a b ha _ => shT nm a ha) (fun e he => ?_) nm u u h h
        have nd := nodes e he
        unfold Nd.key
        split
        · exact nd.2.2.2.2.2.1
        · exact nd.2.2.2.2.1
      · refine puts_rel (R := fun _ a b => Rel w P s₄.heap.objs.size (n + 2) kM' s₄.heap a b) kk (fun nm a b ha hb => relUp (by omega) (fun y o p1 p2 p3 g => k4 _ _ (by omega) (by omega) (keepOld y o p1 p2 p3 g)) a b (relT nm a b ha hb)) fun e he => ?_
        have nd := nodes e he
        obtain ⟨i, hi⟩ := List.getElem?_of_mem he
        obtain ⟨lab, ni⟩ := nd₄ i e hi
        have hni := ni
        obtain ⟨gn, _, _, _, gd⟩ := hni
        have tn := tup₄ e he
        obtain ⟨_, _, _, gtp⟩ := id tn
        have hT3 : (valueAt kM mod = some (.ref TM) ∨ e.n < TM) ∧ (valueAt kM mod = some (.ref TM) ∨ e.d < TM) ∧ (valueAt kM mod = some (.ref TM) ∨ e.tp < TM) := by
          rcases hTM with h | ⟨_, h⟩
          · exact ⟨.inl h, .inl h, .inl h⟩
          · exact ⟨.inr (h e he).1, .inr (h e he).2.1, .inr (h e he).2.2⟩
        exact ⟨e.n, e.d, e.tp, lab, e.num, rfl, rfl, ni, tn, nd.2.2.2.2.2.2.2.2, ⟨by omega, ltn gn, freeBig _ (by omega) hT3.1⟩, ⟨by omega, ltn gd, freeBig _ (by omega) hT3.2.1⟩, by omega, ltn gtp, freeBig _ (by omega) hT3.2.2⟩
  rcases hV0 with ⟨hv, rfl⟩ | ⟨v, hv, rfl⟩
  · -- a new module
    have hu := (val_par C.keys).mpr hv
    have iD : ∀ {b : Nat} {o : Obj}, s.heap.get? b = some o → L < b → b ≠ TB → b ≠ MS → b ≠ DB → b ∉ es.map (·.d) → Old h₀ L (MS :: DB :: es.map (·.d)) s₁.heap b := fun {b o} g l n1 n2 n3 n4 => old_of F₁ (g1 _ _ (by omega) n1 g) l (by simp only [List.mem_cons, not_or]; exact ⟨n2, n3, n4⟩)
    have iP := iD gcP (by omega) (by omega) (by omega) (by omega) (fun hm => by have := dlow _ hm; omega)
    refine seq ((S4 _).2 hu) iP (fun _ _ _ _ h => h.1) fun s₂ m₂ lk₂ F₂ K₂ hP₂ => ?_
    obtain ⟨_, TM, lTM, dM₂, ex, _⟩ := hP₂ _ iP
    have all : ∀ x, Old h₀ L (MS :: DB :: es.map (·.d)) s₁.heap x → x < TM := fun x hx => by
      obtain ⟨_, TM', l, dM', _⟩ := hP₂ x hx
      have h1 := dAt_of dM' (val_self _ _ _)
      obtain ⟨o, g, r, _⟩ := id dM₂
      have h2 := dAt_val g r h1
      rw [val_self] at h2
      cases h2
      exact l
    obtain ⟨oTB₁, gTB₁, _⟩ := id dTB₁
    have lTB : TB < TM := all TB (old_of F₁ gTB₁ (by omega) (by simp only [List.mem_cons, not_or]; exact ⟨by omega, by omega, fun hm => by have := dlow _ hm; omega⟩))
    refine next s₂ m₂ TM _ [] lk₂ F₂ (fun b o n a1 a2 _ a4 e => K₂ b o n (by simp only [List.mem_cons, not_or]; exact ⟨a1, a2, a4⟩) e) (.inr ⟨rfl, hu, by omega⟩) (.inr ⟨lTB, fun e he => ?_⟩) (by omega) rfl (by simpa using hn.1) (fun nm u h => by simp [valueAt] at h) (fun nm a b h => by simp [valueAt] at h) dM₂ ex
    have nd := nodes e he
    obtain ⟨gn, u1, u2, u3, gd⟩ := nd.1
    obtain ⟨_, _, _, gtp⟩ := nd.2.2.2.2.2.2.1
    have atp : e.tp < TM := all _ (iD gtp (by omega) (by omega) (by omega) (by omega) fun hm => by
      obtain ⟨e', he', q⟩ := List.mem_map.mp hm
      exact (apart e he e' he').1 q.symm)
    have an : e.n < TM := all _ (iD gn (by omega) (by omega) (by omega) (by omega) fun hm => by
      obtain ⟨e', he', q⟩ := List.mem_map.mp hm
      exact (apart e he e' he').2 q.symm)
    exact ⟨an, by omega, atp⟩
  · -- the module is there
    obtain ⟨u, hu⟩ := val_some_par C.keys hv
    obtain ⟨TM, PT, rfl, rfl, tb⟩ := C.tabs mod u v hu hv
    have l1T := tb.l1
    have iP : Old h₀ L (DB :: TM :: es.map (·.d)) s₁.heap (L+1+1+1) := old_of F₁ (g1 _ _ (by omega) (by omega) gcP) (by omega) (by simp only [List.mem_cons, not_or]; exact ⟨by omega, by omega, fun hm => by have := dlow _ hm; omega⟩)
    refine seq ((S4 _).1 TM hu) iP (fun _ _ _ _ h => h.1) fun s₂ m₂ lk₂ F₂ K₂ hP₂ => ?_
    obtain ⟨_, ex⟩ := hP₂ _ iP
    refine next s₂ m₂ TM kM (tt mod) lk₂ F₂ (fun b o n _ a2 a3 a4 e => K₂ b o n (by simp only [List.mem_cons, not_or]; exact ⟨a2, a3 TM hu, a4⟩) e) (.inl ⟨rfl, hu⟩) (.inl hu) l1T.1 tb.keys tb.len tb.short tb.ents (dis_up C.dM fun o e => K₂ _ _ (by show MS ≠ L; omega) ?_ (g1 _ _ (by omega) (by omega) e)) ex
    simp only [List.mem_cons, not_or]
    exact ⟨nn (by omega), nn (by omega), fun hm => by have := dlow _ hm; omega⟩
end
end Mine
namespace Mine
theorem lab_not_two : ∀ n : Fin 24, Str.ofString "l" ++ Str.ofString (toString ((n.val : Nat) : Int)) ≠ Str.ofString "two" := by decide +kernel
theorem lab_ne_two {n : Int} (h0 : 0 ≤ n) (h1 : n < 24) : Str.ofString "l" ++ Str.ofString (toString n) ≠ Str.ofString "two" := by
  obtain ⟨k, rfl⟩ := Int.eq_ofNat_of_zero_le h0
  exact lab_not_two ⟨k, by omega⟩
theorem ne_data {h : Heap} {a b : Nat} {o o' : Obj} (g : h.get? a = some o) (g' : h.get? b = some o') (hd : o.data ≠ o'.data) : a ≠ b := fun e => by
  subst e; rw [g] at g'; cases g'; exact hd rfl
section
variable {w : World} {s : Shared} {h₀ : Heap} {mg mb m : Str → Option Value} {loose : List Str} {mean : ExcName → Option Value} {fa L f cc B DB MS P I sc U TB : Nat} {dc pm ct : Value} {oc : Obj} {oI : Option Obj} {n c dr k : Int} {kM kP : List (Str × Value)} {tt tv : Str → List (Str × Value)} {mod : Str} {kV0 : List (Str × Value)}
    (X : (hd.heap_39 w.params).In h₀) (T : Top topProg loose mean mg mb h₀) (Bl : Below callerA h₀ [] h₀)
theorem Core.tabOf {h : Heap} (C' : Core w fa L f cc B DB MS P I sc dc pm ct oc oI U n c kM kP tt tv h) {TM : Nat} (hu : valueAt kM mod = some (.ref TM)) : P < TM ∧ TM < U ∧ DIs w h TM (tt mod) ∧ ((tt mod).length : Int) ≤ n ∧ (∀ nm u, valueAt (tt mod) nm = some u → ∃ nd : Nat, u = .ref nd) ∧ ∃ o, h.get? TM = some o := by
  obtain ⟨v, hv⟩ := val_some_par C'.keys.symm hu
  obtain ⟨TM', PT, e1, e2, tb⟩ := C'.tabs mod _ v hu hv
  cases e1
  refine ⟨tb.l1.1, tb.l1.2, tb.dT, tb.len, fun nm u h => ?_, ?_⟩
  · obtain ⟨b, hb⟩ := val_some_par tb.keys.symm h
    obtain ⟨nd, _, _, _, _, e, _⟩ := tb.ents nm u b h hb
    exact ⟨nd, e⟩
  · obtain ⟨o, g, _⟩ := tb.dT; exact ⟨o, g⟩
include X T Bl
theorem exp_branch (F : Fr h₀ L s.heap m) (C : Core w fa L f cc B DB MS P I sc dc pm ct oc oI U n c kM kP tt tv s.heap) (hk : 0 ≤ k ∧ k < 12) (hnk : n = 2 * k) (hc : 0 ≤ c ∧ c < 900) (hU : U ≤ TB) (lm : ((mod.length : Int) != 0) = true ∧ mod.length ≤ 1000)
    {t0 t9 : Tok} (cK : CIs s.heap (L+1+1+1+1) (.int k t9)) (cD : CIs s.heap (L+1+1+1+1+1) (.int dr t0)) (cT : CIs s.heap (L+1+1+1+1+1+1) (.ref TB)) (dTB : DIs w s.heap TB kV0) (hV0 : (valueAt kP mod = none ∧ kV0 = []) ∨ (∃ v, valueAt kP mod = some v ∧ kV0 = tv mod))
    {t1 : Tok} (l1 : m nModule = some (.str mod t1)) {t2 t3 : Tok} (told : m nTold = some (.str (Str.ofString "done") t2)) (due : m nDue = some (.str (Str.ofString "done") t3)) (E : Value → Shared → Prop) :
    wpAny (model prg w) (callerA.deeper (envLaw fa L)) (execs (ifB (tst 3)) (envLaw fa L)) (BrPost w h₀ fa L f cc B DB MS P I sc dc pm ct oc oI (n + 2) c m s) E s := by
  have eB : ifB (tst 3) = [est 0, est 1, est 2, est 3, est 4, est 5, est 6] := by with_unfolding_all rfl
  have lt := C.lt
  obtain ⟨oT, gcT, dcT⟩ := id cT
  obtain ⟨oK, gcK, dcK⟩ := id cK
  obtain ⟨oD, gcD, dcD⟩ := id cD
  obtain ⟨oTB, gTB, hTB, lTB⟩ := id dTB
  have lM : kM.length ≤ 1000 := by have := len_par C.keys; have := C.lenP; omega
  rw [eB]
  -- est 0
  have iT : Old h₀ L [] s.heap TB := old_of F gTB (by omega) (by simp)
  refine seq (lift_x F iT fun x ox a b c' _ => est0 X T Bl F (news_c F gcD (by omega) (news_1 a b c')) dcD) iT (fun _ _ _ _ h => h.1) fun s₁ m₁ lk₁ F₁ K₁ hP₁ => ?_
  obtain ⟨_, hm₁, NM, hnm, lNM, shape⟩ := hP₁ _ iT
  have g1 : ∀ (b : Nat) o, b ≠ L → s.heap.get? b = some o → s₁.heap.get? b = some o := fun b o n e => K₁ b o n (by simp) e
  have C₁ : Core w fa L f cc B DB MS P I sc dc pm ct oc oI U n c kM kP tt tv s₁.heap := C.keep K₁ (by simp)
  have oTM : ∀ TM : Nat, valueAt kM mod = some (.ref TM) → Old h₀ L [] s₁.heap TM := fun TM hu => by
    obtain ⟨a1, a2, _, _, _, o, g⟩ := C₁.tabOf hu
    exact old_of F₁ g (by omega) (by simp)
  have oTB : Old h₀ L [] s₁.heap TB := old_of F₁ (g1 _ _ (by omega) gTB) (by omega) (by simp)
  have oMS : Old h₀ L [] s₁.heap MS := by obtain ⟨o, g, _⟩ := C₁.dM; exact old_of F₁ g (by omega) (by simp)
  have oDB : Old h₀ L [] s₁.heap DB := by obtain ⟨_, _, _, _, _, g⟩ := C₁.bd; exact old_of F₁ g (by omega) (by simp)
  rcases shape with ⟨cN, t4, gN⟩ | ⟨cN, t4, gN⟩ | ⟨cN, t4, t5, gN⟩
  · -- o
    have iN : Old h₀ L [] s₁.heap NM := old_of F₁ gN (by omega) (by simp)
    refine seq (lift_x F₁ iN fun x ox a b c' _ => est1_one X T Bl F₁ (news_c F₁ (g1 _ _ (by omega) gcK) (by omega) (news_c F₁ (g1 _ _ (by omega) gcD) (by omega) (news_c F₁ gN (by omega) (news_1 a b c')))) dcK dcD hk (by omega) hnm) iN (fun _ _ _ _ h => h.1) fun s₂ m₂ lk₂ F₂ K₂ hP₂ => ?_
    obtain ⟨_, hm₂, NO, n1, d1, tp1, lab, hno, xNO, ⟨cO, nO⟩, ni1, ⟨w1, w2, w3, gt1⟩, hlab, o1, o2, o3⟩ := hP₂ _ iN
    have nox : ∀ x, Old h₀ L [] s₁.heap x → NO ≠ x := fun x hx => by
      obtain ⟨_, _, NO', _, _, _, _, h, q, _⟩ := hP₂ x hx
      rw [hno] at h; cases h; exact Ne.symm q
    have g2 : ∀ (b : Nat) o, b ≠ L → s.heap.get? b = some o → s₂.heap.get? b = some o := fun b o n e => K₂ b o n (by simp) (g1 b o n e)
    have gN₂ := K₂ _ _ (by show NM ≠ L; omega) (by simp) gN
    obtain ⟨gn1, u1, u2, u3, gd1⟩ := id ni1
    have iD : Old h₀ L [] s₂.heap d1 := old_of F₂ gd1 (by omega) (by simp)
    refine seq (lift_x F₂ iD fun x ox a b c' _ => est2_one X T Bl F₂ (news_cons nO (news_c F₂ gn1 (by omega) (news_c F₂ gd1 (by omega) (news_1 a b c')))) hno) iD (fun _ _ _ _ h => h.1) fun s₃ m₃ lk₃ F₃ K₃ hP₃ => ?_
    obtain ⟨_, hm₃, LB, hlb, xLB, cL, tl, nL⟩ := hP₃ _ iD
    have lbx : ∀ x, Old h₀ L [] s₂.heap x → LB ≠ x := fun x hx => by
      obtain ⟨_, _, LB', h, q, _⟩ := hP₃ x hx
      rw [hlb] at h; cases h; exact Ne.symm q
    have old₂ : ∀ x, Old h₀ L [] s₁.heap x → Old h₀ L [] s₂.heap x := fun x ⟨⟨o, g⟩, a, b, c⟩ => ⟨⟨o, K₂ _ _ b (by simp) g⟩, a, b, c⟩
    have g3 : ∀ (b : Nat) o, b ≠ L → s.heap.get? b = some o → s₃.heap.get? b = some o := fun b o n e => K₃ b o n (by simp) (g2 b o n e)
    have k3 : ∀ (b : Nat) o, b ≠ L → s₂.heap.get? b = some o → s₃.heap.get? b = some o := fun b o n e => K₃ b o n (by simp) e
    have gN₃ := k3 _ _ (by omega) gN₂
    have C₃ : Core w fa L f cc B DB MS P I sc dc pm ct oc oI U n c kM kP tt tv s₃.heap := C.keep ((K₁.t2 K₂).t2 K₃) (by simp)
    have e3 : ∀ y, y ≠ nNames ∧ y ≠ nNodes ∧ y ≠ nLabels → m₃ y = m y := fun y hy => (hm₃ y hy.2.2).trans ((hm₂ y hy.2.1).trans (hm₁ y hy.1))
    have l1₃ := (e3 nModule (by decide +kernel)).trans l1
    have told₃ := (e3 nTold (by decide +kernel)).trans told
    have due₃ := (e3 nDue (by decide +kernel)).trans due
    have hnm₃ : m₃ nNames = some (.ref NM) := (hm₃ _ (by decide +kernel)).trans ((hm₂ _ (by decide +kernel)).trans hnm)
    have hno₃ : m₃ nNodes = some (.ref NO) := (hm₃ _ (by decide +kernel)).trans hno
    have nN₃ : News h₀ L s₃.heap [(NM, W.listOf #[Value.str (Str.ofString "one") t4] cN)] := news_c F₃ gN₃ (by omega) News.nil
    have nO₃ : News h₀ L s₃.heap [(NO, W.listOf #[.ref n1] cO)] := news_keep nO K₃ (by simp)
    have ni1₃ : NIs w s₃.heap n1 d1 tp1 lab := nis_up ni1 (fun o g => k3 _ _ (by omega) g) fun o g => k3 _ _ (by omega) g
    have tn1 : TupNum s₃.heap tp1 (2 * k + (0 + ((0 : Nat) : Int))) := ⟨_, _, _, k3 _ _ (by omega) gt1⟩
    have nod1 : NO ≠ d1 := ne_data (nO _ (.head _)).1 gd1 (fun h => by cases h)
    have lab1 : lab = Str.ofString "" ∨ (((lab.length : Int) != 0) = true ∧ lab.length ≤ 1000 ∧ lab ≠ Str.ofString "") := hlab.imp id fun h => by rw [h]; have := lab_ok (n := 2 * k + (0 + ((0 : Nat) : Int))) (by omega) (by omega); exact ⟨this.2.1, this.1, this.2.2⟩
    have len1 : lab.length ≤ 1000 := by
      rcases lab1 with h | h
      · rw [h]; decide +kernel
      · exact h.2.1
    refine wpAny_mono (exp_rest X T Bl F₃ C₃ (by omega) hU (cis_up' cT fun o g => g3 _ _ (by omega) g) (dis_up dTB fun o g => g3 _ _ (by omega) g) hV0 l1₃ ⟨_, told₃⟩ ⟨_, due₃⟩ (es := [(⟨(Str.ofString "one"), n1, d1, tp1, lab, 2 * k + (0 + ((0 : Nat) : Int))⟩ : Nd)]) (by simp) nN₃ nO₃ nL
      ⟨by omega, Mine.ni1 (by show NM ≠ d1; omega)⟩ ⟨nox _ oTB, nox _ oMS, nox _ oDB, Mine.ni1 nod1, fun TM hu => nox _ (oTM TM hu)⟩ ⟨lbx _ (old₂ _ oTB), lbx _ (old₂ _ oMS), lbx _ (old₂ _ oDB), Mine.ni1 (lbx _ iD), fun TM hu => lbx _ (old₂ _ (oTM TM hu))⟩
      rfl rfl rfl ?_ ?_ ?_ ?_ ?_ hnm₃ hno₃ hlb ?_ _) (fun fl s' x => x.pre ((lk₁.trans lk₂).trans lk₃) (e3 _ (by decide +kernel)) (e3 _ (by decide +kernel)) fun a o ha e => g3 a o (by omega) e) fun _ _ e => e
    · exact idx1 (P := fun i e => (∃ t, (#[Value.str (Str.ofString "one") t4] : Array Value)[i]? = some (Value.str e.nm t)) ∧ (#[.ref n1] : Array Value)[i]? = some (Value.ref e.n) ∧ ∃ t, (#[Value.str lab tl] : Array Value)[i]? = some (Value.str e.lab t)) ⟨⟨_, rfl⟩, rfl, _, rfl⟩
    · intro e he
      rw [List.mem_singleton.mp he]
      exact ⟨ni1₃, (by show TB < tp1; omega), (by show tp1 < d1; omega), (by show d1 < n1; omega), len1, (by show Str.length (Str.ofString "one") ≤ 1000; decide +kernel), tn1, (by show n ≤ 2 * k + (0 + ((0 : Nat) : Int)); omega), (by show 2 * k + (0 + ((0 : Nat) : Int)) < n + 2; omega)⟩
    · intro e he e' he'
      rw [List.mem_singleton.mp he, List.mem_singleton.mp he']
      exact ⟨(by show tp1 ≠ d1; omega), (by show n1 ≠ d1; omega)⟩
    · exact List.pairwise_singleton ..
    · exact List.pairwise_singleton ..
    · intro s' m' F' K' r1 r2 r3 r4 E'
      have C' : Core w fa L f cc B DB MS P I sc dc pm ct oc oI U n c kM kP tt tv s'.heap := C₃.keep K' (fun d hd => by rw [List.mem_singleton.mp hd]; exact .inr (.inr (.inr hU)))
      have k4 : ∀ (b : Nat) o, b ≠ L → b ≠ TB → s₃.heap.get? b = some o → s'.heap.get? b = some o := fun b o n n' e => K' b o n (Mine.ni1 n') e
      have gN' := k4 _ _ (by omega) (by omega) gN₃
      have nO' : News h₀ L s'.heap [(NO, W.listOf #[.ref n1] cO)] := news_keep nO₃ K' (Mine.ni1 (nox _ oTB))
      have ni1₄ : NIs w s'.heap n1 d1 tp1 lab := nis_up ni1₃ (fun o g => k4 _ _ (by omega) (by omega) g) fun o g => k4 _ _ (by omega) (by omega) g
      refine ⟨fun TM hu => ?_, fun hu => ?_⟩
      · obtain ⟨a1, a2, a3, a4, a5, _⟩ := C'.tabOf hu
        exact e4_o_p (e1 := (⟨(Str.ofString "one"), n1, d1, tp1, lab, 2 * k + (0 + ((0 : Nat) : Int))⟩ : Nd)) X T Bl F' ⟨by omega, by omega, by omega, by omega, (by show TM < d1; omega), (by show d1 < n1; omega)⟩ C'.cB C'.gB C'.bd C'.dM a3 (by omega) lM hc lm ni1₄ rfl lab1 gN' (by omega) nO' (r1.trans hnm₃) (r2.trans hno₃) (r3.trans l1₃) (r4.trans told₃) hu a5 _
      · obtain ⟨oP', gP', _⟩ := C'.dP
        exact e4_o_a (e1 := (⟨(Str.ofString "one"), n1, d1, tp1, lab, 2 * k + (0 + ((0 : Nat) : Int))⟩ : Nd)) X T Bl F' ⟨by omega, by omega, by omega, by omega, (by show P < d1; omega), (by show d1 < n1; omega)⟩ C'.cB C'.gB C'.bd C'.dM gP' lM hc lm ni1₄ rfl lab1 gN' (by omega) nO' (r1.trans hnm₃) (r2.trans hno₃) (r3.trans l1₃) (r4.trans told₃) hu _
  · -- t
    have iN : Old h₀ L [] s₁.heap NM := old_of F₁ gN (by omega) (by simp)
    refine seq (lift_x F₁ iN fun x ox a b c' _ => est1_one X T Bl F₁ (news_c F₁ (g1 _ _ (by omega) gcK) (by omega) (news_c F₁ (g1 _ _ (by omega) gcD) (by omega) (news_c F₁ gN (by omega) (news_1 a b c')))) dcK dcD hk (by omega) hnm) iN (fun _ _ _ _ h => h.1) fun s₂ m₂ lk₂ F₂ K₂ hP₂ => ?_
    obtain ⟨_, hm₂, NO, n1, d1, tp1, lab, hno, xNO, ⟨cO, nO⟩, ni1, ⟨w1, w2, w3, gt1⟩, hlab, o1, o2, o3⟩ := hP₂ _ iN
    have nox : ∀ x, Old h₀ L [] s₁.heap x → NO ≠ x := fun x hx => by
      obtain ⟨_, _, NO', _, _, _, _, h, q, _⟩ := hP₂ x hx
      rw [hno] at h; cases h; exact Ne.symm q
    have g2 : ∀ (b : Nat) o, b ≠ L → s.heap.get? b = some o → s₂.heap.get? b = some o := fun b o n e => K₂ b o n (by simp) (g1 b o n e)
    have gN₂ := K₂ _ _ (by show NM ≠ L; omega) (by simp) gN
    obtain ⟨gn1, u1, u2, u3, gd1⟩ := id ni1
    have iD : Old h₀ L [] s₂.heap d1 := old_of F₂ gd1 (by omega) (by simp)
    refine seq (lift_x F₂ iD fun x ox a b c' _ => est2_one X T Bl F₂ (news_cons nO (news_c F₂ gn1 (by omega) (news_c F₂ gd1 (by omega) (news_1 a b c')))) hno) iD (fun _ _ _ _ h => h.1) fun s₃ m₃ lk₃ F₃ K₃ hP₃ => ?_
    obtain ⟨_, hm₃, LB, hlb, xLB, cL, tl, nL⟩ := hP₃ _ iD
    have lbx : ∀ x, Old h₀ L [] s₂.heap x → LB ≠ x := fun x hx => by
      obtain ⟨_, _, LB', h, q, _⟩ := hP₃ x hx
      rw [hlb] at h; cases h; exact Ne.symm q
    have old₂ : ∀ x, Old h₀ L [] s₁.heap x → Old h₀ L [] s₂.heap x := fun x ⟨⟨o, g⟩, a, b, c⟩ => ⟨⟨o, K₂ _ _ b (by simp) g⟩, a, b, c⟩
    have g3 : ∀ (b : Nat) o, b ≠ L → s.heap.get? b = some o → s₃.heap.get? b = some o := fun b o n e => K₃ b o n (by simp) (g2 b o n e)
    have k3 : ∀ (b : Nat) o, b ≠ L → s₂.heap.get? b = some o → s₃.heap.get? b = some o := fun b o n e => K₃ b o n (by simp) e
    have gN₃ := k3 _ _ (by omega) gN₂
    have C₃ : Core w fa L f cc B DB MS P I sc dc pm ct oc oI U n c kM kP tt tv s₃.heap := C.keep ((K₁.t2 K₂).t2 K₃) (by simp)
    have e3 : ∀ y, y ≠ nNames ∧ y ≠ nNodes ∧ y ≠ nLabels → m₃ y = m y := fun y hy => (hm₃ y hy.2.2).trans ((hm₂ y hy.2.1).trans (hm₁ y hy.1))
    have l1₃ := (e3 nModule (by decide +kernel)).trans l1
    have told₃ := (e3 nTold (by decide +kernel)).trans told
    have due₃ := (e3 nDue (by decide +kernel)).trans due
    have hnm₃ : m₃ nNames = some (.ref NM) := (hm₃ _ (by decide +kernel)).trans ((hm₂ _ (by decide +kernel)).trans hnm)
    have hno₃ : m₃ nNodes = some (.ref NO) := (hm₃ _ (by decide +kernel)).trans hno
    have nN₃ : News h₀ L s₃.heap [(NM, W.listOf #[Value.str (Str.ofString "two") t4] cN)] := news_c F₃ gN₃ (by omega) News.nil
    have nO₃ : News h₀ L s₃.heap [(NO, W.listOf #[.ref n1] cO)] := news_keep nO K₃ (by simp)
    have ni1₃ : NIs w s₃.heap n1 d1 tp1 lab := nis_up ni1 (fun o g => k3 _ _ (by omega) g) fun o g => k3 _ _ (by omega) g
    have tn1 : TupNum s₃.heap tp1 (2 * k + (0 + ((0 : Nat) : Int))) := ⟨_, _, _, k3 _ _ (by omega) gt1⟩
    have nod1 : NO ≠ d1 := ne_data (nO _ (.head _)).1 gd1 (fun h => by cases h)
    have lab1 : lab = Str.ofString "" ∨ (((lab.length : Int) != 0) = true ∧ lab.length ≤ 1000 ∧ lab ≠ Str.ofString "") := hlab.imp id fun h => by rw [h]; have := lab_ok (n := 2 * k + (0 + ((0 : Nat) : Int))) (by omega) (by omega); exact ⟨this.2.1, this.1, this.2.2⟩
    have len1 : lab.length ≤ 1000 := by
      rcases lab1 with h | h
      · rw [h]; decide +kernel
      · exact h.2.1
    refine wpAny_mono (exp_rest X T Bl F₃ C₃ (by omega) hU (cis_up' cT fun o g => g3 _ _ (by omega) g) (dis_up dTB fun o g => g3 _ _ (by omega) g) hV0 l1₃ ⟨_, told₃⟩ ⟨_, due₃⟩ (es := [(⟨(Str.ofString "two"), n1, d1, tp1, lab, 2 * k + (0 + ((0 : Nat) : Int))⟩ : Nd)]) (by simp) nN₃ nO₃ nL
      ⟨by omega, Mine.ni1 (by show NM ≠ d1; omega)⟩ ⟨nox _ oTB, nox _ oMS, nox _ oDB, Mine.ni1 nod1, fun TM hu => nox _ (oTM TM hu)⟩ ⟨lbx _ (old₂ _ oTB), lbx _ (old₂ _ oMS), lbx _ (old₂ _ oDB), Mine.ni1 (lbx _ iD), fun TM hu => lbx _ (old₂ _ (oTM TM hu))⟩
      rfl rfl rfl ?_ ?_ ?_ ?_ ?_ hnm₃ hno₃ hlb ?_ _) (fun fl s' x => x.pre ((lk₁.trans lk₂).trans lk₃) (e3 _ (by decide +kernel)) (e3 _ (by decide +kernel)) fun a o ha e => g3 a o (by omega) e) fun _ _ e => e
    · exact idx1 (P := fun i e => (∃ t, (#[Value.str (Str.ofString "two") t4] : Array Value)[i]? = some (Value.str e.nm t)) ∧ (#[.ref n1] : Array Value)[i]? = some (Value.ref e.n) ∧ ∃ t, (#[Value.str lab tl] : Array Value)[i]? = some (Value.str e.lab t)) ⟨⟨_, rfl⟩, rfl, _, rfl⟩
    · intro e he
      rw [List.mem_singleton.mp he]
      exact ⟨ni1₃, (by show TB < tp1; omega), (by show tp1 < d1; omega), (by show d1 < n1; omega), len1, (by show Str.length (Str.ofString "two") ≤ 1000; decide +kernel), tn1, (by show n ≤ 2 * k + (0 + ((0 : Nat) : Int)); omega), (by show 2 * k + (0 + ((0 : Nat) : Int)) < n + 2; omega)⟩
    · intro e he e' he'
      rw [List.mem_singleton.mp he, List.mem_singleton.mp he']
      exact ⟨(by show tp1 ≠ d1; omega), (by show n1 ≠ d1; omega)⟩
    · exact List.pairwise_singleton ..
    · exact List.pairwise_singleton ..
    · intro s' m' F' K' r1 r2 r3 r4 E'
      have C' : Core w fa L f cc B DB MS P I sc dc pm ct oc oI U n c kM kP tt tv s'.heap := C₃.keep K' (fun d hd => by rw [List.mem_singleton.mp hd]; exact .inr (.inr (.inr hU)))
      have k4 : ∀ (b : Nat) o, b ≠ L → b ≠ TB → s₃.heap.get? b = some o → s'.heap.get? b = some o := fun b o n n' e => K' b o n (Mine.ni1 n') e
      have gN' := k4 _ _ (by omega) (by omega) gN₃
      have nO' : News h₀ L s'.heap [(NO, W.listOf #[.ref n1] cO)] := news_keep nO₃ K' (Mine.ni1 (nox _ oTB))
      have ni1₄ : NIs w s'.heap n1 d1 tp1 lab := nis_up ni1₃ (fun o g => k4 _ _ (by omega) (by omega) g) fun o g => k4 _ _ (by omega) (by omega) g
      refine ⟨fun TM hu => ?_, fun hu => ?_⟩
      · obtain ⟨a1, a2, a3, a4, a5, _⟩ := C'.tabOf hu
        exact e4_t_p (e1 := (⟨(Str.ofString "two"), n1, d1, tp1, lab, 2 * k + (0 + ((0 : Nat) : Int))⟩ : Nd)) X T Bl F' ⟨by omega, by omega, by omega, by omega, (by show TM < d1; omega), (by show d1 < n1; omega)⟩ C'.cB C'.gB C'.bd C'.dM a3 (by omega) lM hc lm ni1₄ rfl lab1 gN' (by omega) nO' (r1.trans hnm₃) (r2.trans hno₃) (r3.trans l1₃) (r4.trans told₃) hu a5 _
      · obtain ⟨oP', gP', _⟩ := C'.dP
        exact e4_t_a (e1 := (⟨(Str.ofString "two"), n1, d1, tp1, lab, 2 * k + (0 + ((0 : Nat) : Int))⟩ : Nd)) X T Bl F' ⟨by omega, by omega, by omega, by omega, (by show P < d1; omega), (by show d1 < n1; omega)⟩ C'.cB C'.gB C'.bd C'.dM gP' lM hc lm ni1₄ rfl lab1 gN' (by omega) nO' (r1.trans hnm₃) (r2.trans hno₃) (r3.trans l1₃) (r4.trans told₃) hu _
  · -- ot
    have iN : Old h₀ L [] s₁.heap NM := old_of F₁ gN (by omega) (by simp)
    refine seq (lift_x F₁ iN fun x ox a b c' _ => est1_two X T Bl F₁ (news_c F₁ (g1 _ _ (by omega) gcK) (by omega) (news_c F₁ (g1 _ _ (by omega) gcD) (by omega) (news_c F₁ gN (by omega) (news_1 a b c')))) dcK dcD hk (by omega) hnm) iN (fun _ _ _ _ h => h.1) fun s₂ m₂ lk₂ F₂ K₂ hP₂ => ?_
    obtain ⟨_, hm₂, NO, n1, d1, tp1, n2, d2, tp2, lab, lab2, hno, xNO, ⟨cO, nO⟩, ⟨ni1, ⟨w1, w2, w3, gt1⟩, hlab, o1, o2, o3⟩, ⟨ni2, ⟨w4, w5, w6, gt2⟩, hlab2, p1, p2, p3⟩, o4, hiff⟩ := hP₂ _ iN
    have nox : ∀ x, Old h₀ L [] s₁.heap x → NO ≠ x := fun x hx => by
      obtain ⟨_, _, NO', _, _, _, _, _, _, _, _, h, q, _⟩ := hP₂ x hx
      rw [hno] at h; cases h; exact Ne.symm q
    have g2 : ∀ (b : Nat) o, b ≠ L → s.heap.get? b = some o → s₂.heap.get? b = some o := fun b o n e => K₂ b o n (by simp) (g1 b o n e)
    have gN₂ := K₂ _ _ (by show NM ≠ L; omega) (by simp) gN
    obtain ⟨gn1, u1, u2, u3, gd1⟩ := id ni1
    obtain ⟨gn2, y1, y2, y3, gd2⟩ := id ni2
    have iD : Old h₀ L [] s₂.heap d1 := old_of F₂ gd1 (by omega) (by simp)
    have iD2 : Old h₀ L [] s₂.heap d2 := old_of F₂ gd2 (by omega) (by simp)
    refine seq (lift_x F₂ iD fun x ox a b c' _ => est2_two X T Bl F₂ (news_cons nO (news_c F₂ gn1 (by omega) (news_c F₂ gd1 (by omega) (news_c F₂ gn2 (by omega) (news_c F₂ gd2 (by omega) (news_1 a b c')))))) hno) iD (fun _ _ _ _ h => h.1) fun s₃ m₃ lk₃ F₃ K₃ hP₃ => ?_
    obtain ⟨_, hm₃, LB, hlb, xLB, cL, tl, tl2, nL⟩ := hP₃ _ iD
    have lbx : ∀ x, Old h₀ L [] s₂.heap x → LB ≠ x := fun x hx => by
      obtain ⟨_, _, LB', h, q, _⟩ := hP₃ x hx
      rw [hlb] at h; cases h; exact Ne.symm q
    have old₂ : ∀ x, Old h₀ L [] s₁.heap x → Old h₀ L [] s₂.heap x := fun x ⟨⟨o, g⟩, a, b, c⟩ => ⟨⟨o, K₂ _ _ b (by simp) g⟩, a, b, c⟩
    have g3 : ∀ (b : Nat) o, b ≠ L → s.heap.get? b = some o → s₃.heap.get? b = some o := fun b o n e => K₃ b o n (by simp) (g2 b o n e)
    have k3 : ∀ (b : Nat) o, b ≠ L → s₂.heap.get? b = some o → s₃.heap.get? b = some o := fun b o n e => K₃ b o n (by simp) e
    have gN₃ := k3 _ _ (by omega) gN₂
    have C₃ : Core w fa L f cc B DB MS P I sc dc pm ct oc oI U n c kM kP tt tv s₃.heap := C.keep ((K₁.t2 K₂).t2 K₃) (by simp)
    have e3 : ∀ y, y ≠ nNames ∧ y ≠ nNodes ∧ y ≠ nLabels → m₃ y = m y := fun y hy => (hm₃ y hy.2.2).trans ((hm₂ y hy.2.1).trans (hm₁ y hy.1))
    have l1₃ := (e3 nModule (by decide +kernel)).trans l1
    have told₃ := (e3 nTold (by decide +kernel)).trans told
    have due₃ := (e3 nDue (by decide +kernel)).trans due
    have hnm₃ : m₃ nNames = some (.ref NM) := (hm₃ _ (by decide +kernel)).trans ((hm₂ _ (by decide +kernel)).trans hnm)
    have hno₃ : m₃ nNodes = some (.ref NO) := (hm₃ _ (by decide +kernel)).trans hno
    have nN₃ : News h₀ L s₃.heap [(NM, W.listOf #[Value.str (Str.ofString "one") t4, Value.str (Str.ofString "two") t5] cN)] := news_c F₃ gN₃ (by omega) News.nil
    have nO₃ : News h₀ L s₃.heap [(NO, W.listOf #[.ref n1, .ref n2] cO)] := news_keep nO K₃ (by simp)
    have ni1₃ : NIs w s₃.heap n1 d1 tp1 lab := nis_up ni1 (fun o g => k3 _ _ (by omega) g) fun o g => k3 _ _ (by omega) g
    have tn1 : TupNum s₃.heap tp1 (2 * k + (0 + ((0 : Nat) : Int))) := ⟨_, _, _, k3 _ _ (by omega) gt1⟩
    have ni2₃ : NIs w s₃.heap n2 d2 tp2 lab2 := nis_up ni2 (fun o g => k3 _ _ (by omega) g) fun o g => k3 _ _ (by omega) g
    have tn2 : TupNum s₃.heap tp2 (2 * k + (0 + ((1 : Nat) : Int))) := ⟨_, _, _, k3 _ _ (by omega) gt2⟩
    have nod1 : NO ≠ d1 := ne_data (nO _ (.head _)).1 gd1 (fun h => by cases h)
    have lab1 : lab = Str.ofString "" ∨ (((lab.length : Int) != 0) = true ∧ lab.length ≤ 1000 ∧ lab ≠ Str.ofString "") := hlab.imp id fun h => by rw [h]; have := lab_ok (n := 2 * k + (0 + ((0 : Nat) : Int))) (by omega) (by omega); exact ⟨this.2.1, this.1, this.2.2⟩
    have len1 : lab.length ≤ 1000 := by
      rcases lab1 with h | h
      · rw [h]; decide +kernel
      · exact h.2.1
    have nod2 : NO ≠ d2 := ne_data (nO _ (.head _)).1 gd2 (fun h => by cases h)
    have lab2' : lab2 = Str.ofString "" ∨ (((lab2.length : Int) != 0) = true ∧ lab2.length ≤ 1000 ∧ lab2 ≠ Str.ofString "") := hlab2.imp id fun h => by rw [h]; have := lab_ok (n := 2 * k + (0 + ((1 : Nat) : Int))) (by omega) (by omega); exact ⟨this.2.1, this.1, this.2.2⟩
    have len2 : lab2.length ≤ 1000 := by
      rcases lab2' with h | h
      · rw [h]; decide +kernel
      · exact h.2.1
    have hl : (lab = Str.ofString "" ∧ lab2 = Str.ofString "") ∨ ((((lab.length : Int) != 0) = true ∧ lab.length ≤ 1000 ∧ lab ≠ Str.ofString "") ∧ ((lab2.length : Int) != 0) = true ∧ lab2.length ≤ 1000 ∧ lab2 ≠ Str.ofString "") := by
      rcases lab1 with h | h
      · exact .inl ⟨h, hiff.mp h⟩
      · rcases lab2' with h2 | h2
        · exact absurd (hiff.mpr h2) h.2.2
        · exact .inr ⟨h, h2⟩
    have k12 : Nd.key (⟨(Str.ofString "one"), n1, d1, tp1, lab, 2 * k + (0 + ((0 : Nat) : Int))⟩ : Nd) ≠ Str.ofString "two" := by
      unfold Nd.key
      split
      · show (Str.ofString "one") ≠ (Str.ofString "two"); decide +kernel
      · next h =>
        rcases hlab with h' | h'
        · exact absurd h' h
        · show lab ≠ _
          rw [h']; exact lab_ne_two (by omega) (by omega)
    have kk : Nd.key (⟨(Str.ofString "one"), n1, d1, tp1, lab, 2 * k + (0 + ((0 : Nat) : Int))⟩ : Nd) ≠ Nd.key (⟨(Str.ofString "two"), n2, d2, tp2, lab2, 2 * k + (0 + ((1 : Nat) : Int))⟩ : Nd) := by
      unfold Nd.key
      split
      · next h =>
        rw [if_pos (hiff.mp h)]; (show (Str.ofString "one") ≠ (Str.ofString "two")); decide +kernel
      · next h =>
        have h2 : ¬ lab2 = Str.ofString "" := fun q => h (hiff.mpr q)
        rw [if_neg h2]
        rcases hlab with h' | h'
        · exact absurd h' h
        · rcases hlab2 with h3 | h3
          · exact absurd h3 h2
          · show lab ≠ lab2
            rw [h', h3, show (2 * k + (0 + ((1 : Nat) : Int)) : Int) = (2 * k + (0 + ((0 : Nat) : Int))) + 1 by omega]
            exact lab_two (by omega) (by omega)
    refine wpAny_mono (exp_rest X T Bl F₃ C₃ (by omega) hU (cis_up' cT fun o g => g3 _ _ (by omega) g) (dis_up dTB fun o g => g3 _ _ (by omega) g) hV0 l1₃ ⟨_, told₃⟩ ⟨_, due₃⟩ (es := [(⟨(Str.ofString "one"), n1, d1, tp1, lab, 2 * k + (0 + ((0 : Nat) : Int))⟩ : Nd), (⟨(Str.ofString "two"), n2, d2, tp2, lab2, 2 * k + (0 + ((1 : Nat) : Int))⟩ : Nd)]) (by simp) nN₃ nO₃ nL
      ⟨by omega, Mine.ni2 (by show NM ≠ d1; omega) (by show NM ≠ d2; omega)⟩ ⟨nox _ oTB, nox _ oMS, nox _ oDB, Mine.ni2 nod1 nod2, fun TM hu => nox _ (oTM TM hu)⟩ ⟨lbx _ (old₂ _ oTB), lbx _ (old₂ _ oMS), lbx _ (old₂ _ oDB), Mine.ni2 (lbx _ iD) (lbx _ iD2), fun TM hu => lbx _ (old₂ _ (oTM TM hu))⟩
      rfl rfl rfl ?_ ?_ ?_ ?_ ?_ hnm₃ hno₃ hlb ?_ _) (fun fl s' x => x.pre ((lk₁.trans lk₂).trans lk₃) (e3 _ (by decide +kernel)) (e3 _ (by decide +kernel)) fun a o ha e => g3 a o (by omega) e) fun _ _ e => e
    · exact idx2 (P := fun i e => (∃ t, (#[Value.str (Str.ofString "one") t4, Value.str (Str.ofString "two") t5] : Array Value)[i]? = some (Value.str e.nm t)) ∧ (#[.ref n1, .ref n2] : Array Value)[i]? = some (Value.ref e.n) ∧ ∃ t, (#[Value.str lab tl, Value.str lab2 tl2] : Array Value)[i]? = some (Value.str e.lab t)) ⟨⟨_, rfl⟩, rfl, _, rfl⟩ ⟨⟨_, rfl⟩, rfl, _, rfl⟩
    · intro e he
      rcases List.mem_cons.mp he with rfl | he
      · exact ⟨ni1₃, (by show TB < tp1; omega), (by show tp1 < d1; omega), (by show d1 < n1; omega), len1, (by show Str.length (Str.ofString "one") ≤ 1000; decide +kernel), tn1, (by show n ≤ 2 * k + (0 + ((0 : Nat) : Int)); omega), (by show 2 * k + (0 + ((0 : Nat) : Int)) < n + 2; omega)⟩
      · rw [List.mem_singleton.mp he]
        exact ⟨ni2₃, (by show TB < tp2; omega), (by show tp2 < d2; omega), (by show d2 < n2; omega), len2, (by show Str.length (Str.ofString "two") ≤ 1000; decide +kernel), tn2, (by show n ≤ 2 * k + (0 + ((1 : Nat) : Int)); omega), (by show 2 * k + (0 + ((1 : Nat) : Int)) < n + 2; omega)⟩
    · intro e he e' he'
      simp only [List.mem_cons, List.not_mem_nil, or_false] at he he'
      rcases he with rfl | rfl <;> rcases he' with rfl | rfl
      · exact ⟨(by show tp1 ≠ d1; omega), (by show n1 ≠ d1; omega)⟩
      · exact ⟨(by show tp1 ≠ d2; omega), (by show n1 ≠ d2; omega)⟩
      · exact ⟨(by show tp2 ≠ d1; omega), (by show n2 ≠ d1; omega)⟩
      · exact ⟨(by show tp2 ≠ d2; omega), (by show n2 ≠ d2; omega)⟩
    · exact List.pairwise_cons.mpr ⟨fun b hb => by rw [List.mem_singleton.mp hb]; exact kk, List.pairwise_singleton ..⟩
    · exact List.pairwise_cons.mpr ⟨fun b hb => by rw [List.mem_singleton.mp hb]; (show (2 * k + (0 + ((0 : Nat) : Int)) : Int) ≠ 2 * k + (0 + ((1 : Nat) : Int))); omega, List.pairwise_singleton ..⟩
    · intro s' m' F' K' r1 r2 r3 r4 E'
      have C' : Core w fa L f cc B DB MS P I sc dc pm ct oc oI U n c kM kP tt tv s'.heap := C₃.keep K' (fun d hd => by rw [List.mem_singleton.mp hd]; exact .inr (.inr (.inr hU)))
      have k4 : ∀ (b : Nat) o, b ≠ L → b ≠ TB → s₃.heap.get? b = some o → s'.heap.get? b = some o := fun b o n n' e => K' b o n (Mine.ni1 n') e
      have gN' := k4 _ _ (by omega) (by omega) gN₃
      have nO' : News h₀ L s'.heap [(NO, W.listOf #[.ref n1, .ref n2] cO)] := news_keep nO₃ K' (Mine.ni1 (nox _ oTB))
      have ni1₄ : NIs w s'.heap n1 d1 tp1 lab := nis_up ni1₃ (fun o g => k4 _ _ (by omega) (by omega) g) fun o g => k4 _ _ (by omega) (by omega) g
      have ni2₄ : NIs w s'.heap n2 d2 tp2 lab2 := nis_up ni2₃ (fun o g => k4 _ _ (by omega) (by omega) g) fun o g => k4 _ _ (by omega) (by omega) g
      refine ⟨fun TM hu => ?_, fun hu => ?_⟩
      · obtain ⟨a1, a2, a3, a4, a5, _⟩ := C'.tabOf hu
        exact e4_ot_p (e1 := (⟨(Str.ofString "one"), n1, d1, tp1, lab, 2 * k + (0 + ((0 : Nat) : Int))⟩ : Nd)) (e2 := (⟨(Str.ofString "two"), n2, d2, tp2, lab2, 2 * k + (0 + ((1 : Nat) : Int))⟩ : Nd)) X T Bl F' ⟨by omega, by omega, by omega, by omega, (by show TM < d1; omega), (by show d1 < n1; omega), (by show n1 < d2; omega), (by show d2 < n2; omega)⟩ C'.cB C'.gB C'.bd C'.dM a3 (by omega) lM hc lm ni1₄ ni2₄ rfl rfl hl gN' (by omega) nO' (r1.trans hnm₃) (r2.trans hno₃) (r3.trans l1₃) (r4.trans told₃) hu a5 _
      · obtain ⟨oP', gP', _⟩ := C'.dP
        exact e4_ot_a (e1 := (⟨(Str.ofString "one"), n1, d1, tp1, lab, 2 * k + (0 + ((0 : Nat) : Int))⟩ : Nd)) (e2 := (⟨(Str.ofString "two"), n2, d2, tp2, lab2, 2 * k + (0 + ((1 : Nat) : Int))⟩ : Nd)) X T Bl F' ⟨by omega, by omega, by omega, by omega, (by show P < d1; omega), (by show d1 < n1; omega), (by show n1 < d2; omega), (by show d2 < n2; omega)⟩ C'.cB C'.gB C'.bd C'.dM gP' lM hc lm ni1₄ ni2₄ rfl rfl hl gN' (by omega) nO' (r1.trans hnm₃) (r2.trans hno₃) (r3.trans l1₃) (r4.trans told₃) hu k12 _
end
end Mine
namespace Mine
theorem cis_inj {h : Heap} {c : Addr} {a b : Nat} (x : CIs h c (.ref a)) (y : CIs h c (.ref b)) : a = b := by
  obtain ⟨o, g, d⟩ := x
  obtain ⟨o', g', d'⟩ := y
  rw [g] at g'; cases g'
  rw [d] at d'
  cases d'; rfl
section
variable {w : World} {s : Shared} {h₀ : Heap} {mg mb m : Str → Option Value} {loose : List Str} {mean : ExcName → Option Value} {fa L f cc B DB MS P I sc U : Nat} {dc pm ct : Value} {oc : Obj} {oI : Option Obj} {n c k : Int} {kM kP : List (Str × Value)} {tt tv : Str → List (Str × Value)} {vs : List Value} {ns : List Int} {vsc : Array Value} {tq : Tok}
    (X : (hd.heap_39 w.params).In h₀) (T : Top topProg loose mean mg mb h₀) (Bl : Below callerA h₀ [] h₀)
include X T Bl
theorem turn (F : Fr h₀ L s.heap m) (C : Core w fa L f cc B DB MS P I sc dc pm ct oc oI U n c kM kP tt tv s.heap) (hI : ∃ o, s.heap.get? I = some o) (hk : 0 ≤ k ∧ k < 12) (hnk : n = 2 * k) (hc : 0 ≤ c ∧ c ≤ k) (ch : CodeHd h₀ 185 183)
    (hl : h₀.IsList sc vs.toArray) (hi : IntsAre vs ns) (hlen : ¬ ((63 : Int) < (ns.length : Int))) (d1 : oc.data = .fields vsc) (d2 : vsc[1]? = some (.str (qualnameIn (envLaw fa L) (Str.ofString "draw") (Str.ofString "draw")) tq))
    {t9 : Tok} (cK : CIs s.heap (L+1+1+1+1) (.int k t9)) (cD : ∃ o v, s.heap.get? (L+1+1+1+1+1) = some o ∧ o.data = .cell v) (cT : ∃ o v, s.heap.get? (L+1+1+1+1+1+1) = some o ∧ o.data = .cell v)
    (mD : m nDraw = some (.ref f)) {t8 : Tok} (mC : m nChanges = some (.int c t8)) (E : Value → Shared → Prop) :
    wpAny (model prg w) (callerA.deeper (envLaw fa L)) (execs turnBody (envLaw fa L)) (fun fl s' => fl = .next ∧ ∃ m' U' c' kM' kP' tt' tv', Like s s' ∧ Fr h₀ L s'.heap m' ∧ Core w fa L f cc B DB MS P I sc dc pm ct oc oI U' (n + 2) c' kM' kP' tt' tv' s'.heap ∧ (0 ≤ c' ∧ c' ≤ k + 1) ∧ m' nDraw = some (.ref f) ∧ (∃ t, m' nChanges = some (.int c' t)) ∧
      (∃ o v, s'.heap.get? (L+1+1+1+1) = some o ∧ o.data = .cell v) ∧ (∃ o v, s'.heap.get? (L+1+1+1+1+1) = some o ∧ o.data = .cell v) ∧ ∃ o v, s'.heap.get? (L+1+1+1+1+1+1) = some o ∧ o.data = .cell v) E s := by
  have eB : turnBody = [tst 0, tst 1, tst 2, tst 3, tst 4, tst 5, tst 6, tst 7] := by with_unfolding_all rfl
  have lt := C.lt
  have lP : kP.length ≤ 1000 := by have := C.lenP; omega
  rw [eB]
  -- tst 0
  obtain ⟨oS, gS, dS⟩ := C.cS
  obtain ⟨oK, gK, dK⟩ := id cK
  obtain ⟨oD, vD, gD, dD⟩ := cD
  obtain ⟨oT, vT, gT, dT⟩ := cT
  have i0 : Old h₀ L [L+1+1+1+1+1] s.heap (L+1) := old_of F gS (by omega) (ni1 (by omega))
  refine seq (lift_x F i0 fun x ox a b c' d => st0 X T Bl ch F (news_c F C.gf (by omega) (news_c F C.gc (by omega) (news_c F gS (by omega) (news_c F gK (by omega) (news_c F gD (by omega) (news_1 a b c')))))) d1 d2 dS dK dD hk (by omega) hl hi hlen (by simpa using d) mD) i0 (fun _ _ _ _ h => h.1) fun s₁ m₁ lk₁ F₁ K₁ hP₁ => ?_
  obtain ⟨_, ⟨deed, tdeed, hdeed⟩, hm₁, dr, t0, cD₁⟩ := hP₁ _ i0
  have g1 : ∀ (b : Nat) o, b ≠ L → b ≠ L+1+1+1+1+1 → s.heap.get? b = some o → s₁.heap.get? b = some o := fun b o n n' e => K₁ b o n (ni1 n') e
  have C₁ := C.keep K₁ (fun d hd => by rw [List.mem_singleton.mp hd]; exact .inr (.inl rfl))
  -- tst 1
  obtain ⟨oD₁, gD₁, dD₁⟩ := id cD₁
  have i1 : Old h₀ L [] s₁.heap (L+1) := old_of F₁ (g1 _ _ (by omega) (by omega) gS) (by omega) (by simp)
  refine seq (lift_x F₁ i1 fun x ox a b c' _ => st1 X T Bl F₁ (news_c F₁ gD₁ (by omega) (news_1 a b c')) dD₁) i1 (fun _ _ _ _ h => h.1) fun s₂ m₂ lk₂ F₂ K₂ hP₂ => ?_
  obtain ⟨_, ⟨mod, t1, hmod, hab⟩, ⟨t2, htold⟩, ⟨t3, hdue⟩, hm₂⟩ := hP₂ _ i1
  have g2 : ∀ (b : Nat) o, b ≠ L → b ≠ L+1+1+1+1+1 → s.heap.get? b = some o → s₂.heap.get? b = some o := fun b o n n' e => K₂ b o n (by simp) (g1 b o n n' e)
  have C₂ := C₁.keep K₂ (by simp)
  have lm : ((mod.length : Int) != 0) = true ∧ mod.length ≤ 1000 := by rcases hab with rfl | rfl <;> decide +kernel
  -- tst 2
  obtain ⟨oP, gP, dcP⟩ := C₂.cP
  obtain ⟨oPT, gPT, hPT, lPT⟩ := C₂.dP
  have gT₂ := g2 _ _ (by omega) (by omega) gT
  have i2 : Old h₀ L [L+1+1+1+1+1+1] s₂.heap (L+1) := old_of F₂ (g2 _ _ (by omega) (by omega) gS) (by omega) (ni1 (by omega))
  have st2 : wpAny (model prg w) (callerA.deeper (envLaw fa L)) (exec (tst 2) (envLaw fa L)) (StX h₀ L [L+1+1+1+1+1+1] (fun x f m' h' => f = .next ∧ (∀ y, m' y = m₂ y) ∧ ∃ TB : Nat, ∃ kV0, CIs h' (L+1+1+1+1+1+1) (.ref TB) ∧ DIs w h' TB kV0 ∧ P < TB ∧ x < TB ∧ ((valueAt kP mod = none ∧ kV0 = []) ∨ (∃ v, valueAt kP mod = some v ∧ kV0 = tv mod))) s₂) E s₂ := by
    cases hv : valueAt kP mod with
    | none =>
      refine wpAny_mono (lift_x F₂ i2 fun x ox a b c' d => st2_none X T Bl F₂ (news_c F₂ gP (by omega) (news_c F₂ gT₂ (by omega) (news_c F₂ gPT (by omega) (news_1 a b c')))) dcP dT hPT lPT lP hv (by omega) (by simpa using d) hmod) (fun f s' h => ?_) fun _ _ e => e
      obtain ⟨m', lk, F', K', hp⟩ := h
      refine ⟨m', lk, F', K', fun x hx => ?_⟩
      obtain ⟨a1, a2, TB, a3, a4, a5, a6⟩ := hp x hx
      exact ⟨a1, a2, TB, [], a3, a4, a5, a6, .inl ⟨rfl, rfl⟩⟩
    | some v =>
      obtain ⟨u, hu⟩ := val_some_par C₂.keys hv
      obtain ⟨TM, PT, rfl, rfl, tb⟩ := C₂.tabs mod u v hu hv
      obtain ⟨oV, gV, hV, lV⟩ := tb.dV
      have l2 := tb.l2
      have len := tb.len
      have lenp := len_par tb.keys
      refine wpAny_mono (lift_x F₂ i2 fun x ox a b c' d => st2_some X T Bl F₂ (news_c F₂ gP (by omega) (news_c F₂ gT₂ (by omega) (news_c F₂ gPT (by omega) (news_c F₂ gV (by omega) (news_1 a b c'))))) dcP dT hPT lPT lP hv hV lV (by omega) (by omega) (by simpa using d) hmod) (fun f s' h => ?_) fun _ _ e => e
      obtain ⟨m', lk, F', K', hp⟩ := h
      refine ⟨m', lk, F', K', fun x hx => ?_⟩
      obtain ⟨a1, a2, TB, a3, a4, a5, a6⟩ := hp x hx
      exact ⟨a1, a2, TB, _, a3, a4, a5, a6, .inr ⟨_, rfl, rfl⟩⟩
  refine seq st2 i2 (fun _ _ _ _ h => h.1) fun s₃ m₃ lk₃ F₃ K₃ hP₃ => ?_
  obtain ⟨_, hm₃, TB, kV0, cT₃, dTB₃, lPTB, _, hV0⟩ := hP₃ _ i2
  have g3 : ∀ (b : Nat) o, b ≠ L → b ≠ L+1+1+1+1+1 → b ≠ L+1+1+1+1+1+1 → s.heap.get? b = some o → s₃.heap.get? b = some o := fun b o n n' n'' e => K₃ b o n (ni1 n'') (g2 b o n n' e)
  have hx : ∀ x, Old h₀ L [L+1+1+1+1+1+1] s₂.heap x → x < TB := fun x hx => by
    obtain ⟨_, _, TB', _, a3, _, _, a6, _⟩ := hP₃ x hx
    rw [cis_inj cT₃ a3]; exact a6
  obtain ⟨oi, gi⟩ := hI
  have C₃ : Core w fa L f cc B DB MS P I sc dc pm ct oc oI TB n c kM kP tt tv s₃.heap := (C₂.bound F₂ ⟨oi, g2 _ _ (by omega) (by omega) gi⟩ (fun d hd => by rw [List.mem_singleton.mp hd]; exact .inr (.inr rfl)) hx).keep K₃ (fun d hd => by rw [List.mem_singleton.mp hd]; exact .inr (.inr (.inl rfl)))
  have hmod₃ := (hm₃ _).trans hmod
  have htold₃ := (hm₃ _).trans htold
  have hdue₃ := (hm₃ _).trans hdue
  have hdeed₃ : m₃ (Str.ofString "deed") = some (.int deed tdeed) := (hm₃ _).trans ((hm₂ _ (by decide +kernel)).trans hdeed)
  have mD₃ : m₃ nDraw = some (.ref f) := (hm₃ _).trans ((hm₂ _ (by decide +kernel)).trans ((hm₁ _ (by decide +kernel)).trans mD))
  have mC₃ : m₃ nChanges = some (.int c t8) := (hm₃ _).trans ((hm₂ _ (by decide +kernel)).trans ((hm₁ _ (by decide +kernel)).trans mC))
  have cD₃ : CIs s₃.heap (L+1+1+1+1+1) (.int dr t0) := ⟨oD₁, K₃ _ _ (by show L+1+1+1+1+1 ≠ L; omega) (ni1 (by omega)) (K₂ _ _ (by show L+1+1+1+1+1 ≠ L; omega) (by simp) gD₁), dD₁⟩
  have cK₃ : CIs s₃.heap (L+1+1+1+1) (.int k t9) := ⟨oK, g3 _ _ (by omega) (by omega) (by omega) gK, dK⟩
  -- tst 3
  have i3 : Old h₀ L [] s₃.heap (L+1) := old_of F₃ (g3 _ _ (by omega) (by omega) (by omega) gS) (by omega) (by simp)
  obtain ⟨pos3, e3⟩ : ∃ pos, tst 3 = .If (ifT (tst 3)) (ifB (tst 3)) (ifE (tst 3)) pos := ⟨_, by with_unfolding_all rfl⟩
  have tail : ∀ (s₄ : Shared) (m₄ : Str → Option Value), Like s₃ s₄ → (∀ y, m₄ y = m₃ y) → Keeps L [] s₃.heap s₄.heap → ∀ (fl : Flow) (s₅ : Shared), BrPost w h₀ fa L f cc B DB MS P I sc dc pm ct oc oI (n + 2) c m₄ s₄ fl s₅ →
      (match fl with
        | .next => wpAny (model prg w) (callerA.deeper (envLaw fa L)) (execs [tst 4, tst 5, tst 6, tst 7] (envLaw fa L)) (fun fl s' => fl = .next ∧ ∃ m' U' c' kM' kP' tt' tv', Like s s' ∧ Fr h₀ L s'.heap m' ∧ Core w fa L f cc B DB MS P I sc dc pm ct oc oI U' (n + 2) c' kM' kP' tt' tv' s'.heap ∧ (0 ≤ c' ∧ c' ≤ k + 1) ∧ m' nDraw = some (.ref f) ∧ (∃ t, m' nChanges = some (.int c' t)) ∧
          (∃ o v, s'.heap.get? (L+1+1+1+1) = some o ∧ o.data = .cell v) ∧ (∃ o v, s'.heap.get? (L+1+1+1+1+1) = some o ∧ o.data = .cell v) ∧ ∃ o v, s'.heap.get? (L+1+1+1+1+1+1) = some o ∧ o.data = .cell v) E s₅
        | fl => (fl = .next ∧ ∃ m' U' c' kM' kP' tt' tv', Like s s₅ ∧ Fr h₀ L s₅.heap m' ∧ Core w fa L f cc B DB MS P I sc dc pm ct oc oI U' (n + 2) c' kM' kP' tt' tv' s₅.heap ∧ (0 ≤ c' ∧ c' ≤ k + 1) ∧ m' nDraw = some (.ref f) ∧ (∃ t, m' nChanges = some (.int c' t)) ∧
          (∃ o v, s₅.heap.get? (L+1+1+1+1) = some o ∧ o.data = .cell v) ∧ (∃ o v, s₅.heap.get? (L+1+1+1+1+1) = some o ∧ o.data = .cell v) ∧ ∃ o v, s₅.heap.get? (L+1+1+1+1+1+1) = some o ∧ o.data = .cell v)) := by
    intro s₄ m₄ lk₄ hm₄ K₄ fl s₅ br
    obtain ⟨rfl, m₅, b, U', kM', kP', tt', tv', lk₅, F₅, C₅, told₅, due₅, dD₅, dC₅, cells⟩ := br
    have cellAt : ∀ {a : Nat} {o : Obj}, (a = L+1+1+1+1 ∨ a = L+1+1+1+1+1 ∨ a = L+1+1+1+1+1+1) → s₃.heap.get? a = some o → s₅.heap.get? a = some o := fun {a o} ha g => cells a o ha (K₄ _ _ (by show a ≠ L; omega) (by simp) g)
    obtain ⟨oT₃, gT₃, dT₃⟩ := cT₃
    obtain ⟨oD₃, gD₃, dD₃⟩ := cD₃
    obtain ⟨oK₃, gK₃, dK₃⟩ := cK₃
    have i5 : Old h₀ L [L+1+1+1+1+1+1] s₅.heap (L+1+1+1+1) := old_of F₅ (cellAt (.inl rfl) gK₃) (by omega) (ni1 (by omega))
    refine wpAny_mono (turn_tail X T Bl F₅ C₅ (by omega) ⟨hc.1, by omega⟩ rfl told₅ due₅ ⟨t8, dC₅.trans ((hm₄ _).trans mC₃)⟩ ⟨oT₃, _, cellAt (.inr (.inr rfl)) gT₃, dT₃⟩ E) (fun fl' s₆ h => ?_) fun _ _ e => e
    obtain ⟨m₆, lk₆, F₆, K₆, hp⟩ := h
    obtain ⟨rfl, ch₆, cT₆, hm₆⟩ := hp _ i5
    refine ⟨rfl, m₆, U', _, kM', kP', tt', tv', ((((lk₁.trans lk₂).trans lk₃).trans lk₄).trans lk₅).trans lk₆, F₆, C₅.keep K₆ (fun d hd => by rw [List.mem_singleton.mp hd]; exact .inr (.inr (.inl rfl))), ?_, ?_, ch₆, ⟨oK₃, _, K₆ _ _ (by show L+1+1+1+1 ≠ L; omega) (ni1 (by omega)) (cellAt (.inl rfl) gK₃), dK₃⟩, ⟨oD₃, _, K₆ _ _ (by show L+1+1+1+1+1 ≠ L; omega) (ni1 (by omega)) (cellAt (.inr (.inl rfl)) gD₃), dD₃⟩, cT₆⟩
    · cases b <;> simp <;> omega
    · exact (hm₆ _ (by decide +kernel)).trans (dD₅.trans ((hm₄ _).trans mD₃))
  refine wpAny_execs_cons ?_
  rw [e3]
  refine wpAny_If (wpAny_mono (lift_x F₃ i3 fun x ox a b c' _ => Mine.st3 X T Bl F₃ (news_1 a b c') hdeed₃) (fun b s₄ h₄ => ?_) fun _ _ e => e)
  obtain ⟨m₄, lk₄, F₄, K₄, hp₄⟩ := h₄
  have hm₄ := hp₄ _ i3
  have C₄ := C₃.keep K₄ (by simp)
  have g4 : ∀ (b : Nat) o, b ≠ L → s₃.heap.get? b = some o → s₄.heap.get? b = some o := fun b o n e => K₄ b o n (by simp) e
  have cK₄ : CIs s₄.heap (L+1+1+1+1) (.int k t9) := cis_up' cK₃ fun o g => g4 _ _ (by omega) g
  have cD₄ : CIs s₄.heap (L+1+1+1+1+1) (.int dr t0) := cis_up' cD₃ fun o g => g4 _ _ (by omega) g
  have cT₄ : CIs s₄.heap (L+1+1+1+1+1+1) (.ref TB) := cis_up' cT₃ fun o g => g4 _ _ (by omega) g
  have dTB₄ : DIs w s₄.heap TB kV0 := dis_up dTB₃ fun o g => g4 _ _ (by omega) g
  cases b with
  | true =>
    simp only [if_true]
    exact wpAny_mono (exp_branch X T Bl F₄ C₄ hk hnk ⟨hc.1, by omega⟩ (Nat.le_refl _) lm cK₄ cD₄ cT₄ dTB₄ hV0 ((hm₄ _).trans hmod₃) ((hm₄ _).trans htold₃) ((hm₄ _).trans hdue₃) E) (tail s₄ m₄ lk₄ hm₄ K₄) fun _ _ e => e
  | false =>
    simp only [Bool.false_eq_true, if_false]
    exact wpAny_mono (un_branch X T Bl F₄ C₄ (by omega) ⟨hc.1, by omega⟩ (Nat.le_refl _) lm.2 cD₄ cT₄ dTB₄ hV0 ((hm₄ _).trans hmod₃) ((hm₄ _).trans htold₃) E) (tail s₄ m₄ lk₄ hm₄ K₄) fun _ _ e => e
end
end Mine
namespace Mine
/-- for_walks, with what the iterator is at hand -/
theorem for_walks' {prog : Program} {w : World} {A : Around} {I : Nat} {fp wr : List Addr} {n : Nat} {Pv : Nat → Value → Prop} {St : Nat → Heap → Prop} {target : PySem.Expr} {body : List Stmt} {env : Env} {R : Result → Shared → Prop} {s₀ : Shared} (W : Walks prog w A I fp wr n Pv St) (J : Nat → Heap → Prop)
    (up : ∀ i h h', J i h → St i h → (∀ (b : Nat) o, b ∉ wr → h.get? b = some o → h'.get? b = some o) → J i h')
    (step : ∀ i v s E, Like s₀ s → i < n → Pv i v → St (i + 1) s.heap → J i s.heap → wpAny (model prog w) A (assign target env v) (fun _ s₂ => wpAny (model prog w) A (execs body env) (fun f s₃ => f = .next ∧ Like s₀ s₃ ∧ St (i + 1) s₃.heap ∧ J (i + 1) s₃.heap) E s₂) E s)
    (fin : ∀ s, Like s₀ s → J n s.heap → R (.ok .next) s)
    {i : Nat} {s : Shared} (l : Like s₀ s) (hi : i ≤ n) (st : St i s.heap) (j : J i s.heap) (ht : ∀ v, letOwnedTupleGo target (.ref I) v = pure () := by intro _; rfl) :
    codeAny (model prog w) A (.forLoop target (.ref I) body [] env) R s := by
  refine codeAny_forLoop (fun k s' => ∃ i, i ≤ n ∧ k = n + 1 - i ∧ Like s₀ s' ∧ St i s'.heap ∧ J i s'.heap) ?_ (n + 1 - i) ⟨i, hi, rfl, l, st, j⟩ ht
  rintro k s' ⟨i, hi, rfl, l, st, j⟩
  by_cases hlt : i < n
  · refine W.item i _ _ _ hlt st fun v h' tk hv st' kp => ?_
    have l' : Like s₀ { s' with heap := h', toks := tk } := l.trans (Like.mk' _ _ _)
    refine wpAny_mono (step i v _ _ l' hlt hv st' (up _ _ _ j st kp)) (fun _ s₂ h₂ => wpAny_mono h₂ (fun f s₃ h₃ => ?_) fun _ _ e => e) fun _ _ e => e
    obtain ⟨rfl, l₃, st₃, j₃⟩ := h₃
    exact ⟨n + 1 - (i + 1), by omega, i + 1, hlt, rfl, l₃, st₃, j₃⟩
  · obtain rfl : i = n := by omega
    refine W.done _ _ _ st fun h' tk kp => wpAny_execs_nil ?_
    exact fin _ (l.trans (Like.mk' _ _ _)) (up _ _ _ j st kp)
section
variable {w : World} {h₀ h h' : Heap} {fa L f cc B DB MS P I sc U : Nat} {dc pm ct : Value} {oc : Obj} {oI : Option Obj} {n c : Int} {kM kP : List (Str × Value)} {tt tv : Str → List (Str × Value)}
theorem Core.off (C : Core w fa L f cc B DB MS P I sc dc pm ct oc none U n c kM kP tt tv h) {oi : Obj} {vs : Array Value} (gi : h.get? I = some oi) (di : oi.data = .fields vs) (k : ∀ (b : Nat) o, b ≠ I → h.get? b = some o → h'.get? b = some o) : Core w fa L f cc B DB MS P I sc dc pm ct oc none U n c kM kP tt tv h' := by
  obtain ⟨lt, gf, gc, gI, ⟨ps, g183⟩, cS, cB, cP, gB, bd, dM, dP, keys, lenP, fI, tabs, inj⟩ := C
  refine ⟨lt, k _ _ (by omega) gf, k _ _ (by omega) gc, (fun o e => by cases e), ⟨ps, k _ _ (by omega) g183⟩, cis_up' cS fun o g => k _ _ (by omega) g, cis_up' cB fun o g => k _ _ (by omega) g, cis_up' cP fun o g => k _ _ (by omega) g, k _ _ (by omega) gB, bis_up bd fun o g => k _ _ (by omega) g, dis_up dM fun o g => k _ _ (by omega) g, dis_up dP fun o g => k _ _ (by omega) g, keys, lenP, fI, fun mod u v hu hv => ?_, inj⟩
  obtain ⟨TM, PT, rfl, rfl, tb⟩ := tabs mod u v hu hv
  have neT : TM ≠ I := fun e => fI mod (e ▸ hu)
  have dict : ∀ {d : Nat} {kvs : List (Str × Value)}, DIs w h d kvs → d ≠ I := fun {d kvs} ⟨o, g, ⟨es, ep, _, hd, _⟩, _⟩ e => by
    subst e; rw [gi] at g; cases g; rw [di] at hd; cases hd
  refine ⟨TM, PT, rfl, rfl, ?_⟩
  refine ⟨tb.l1, tb.l2, dis_up tb.dT fun o g => k _ _ neT g, dis_up tb.dV fun o g => k _ _ (dict tb.dV) g, tb.keys, tb.len, tb.short, fun nm a b ha hb => ?_⟩
  obtain ⟨nd, d, tp, lab, num, e1, e2, ⟨g1, u1, u2, u3, g2⟩, ⟨v1, v2, v3, g3⟩, hlt, a1, b1, c1⟩ := tb.ents nm a b ha hb
  have n1 : nd ≠ I := fun e => by subst e; rw [gi] at g1; cases g1; cases di
  have n2 : d ≠ I := fun e => by subst e; rw [gi] at g2; cases g2; cases di
  have n3 : tp ≠ I := fun e => by subst e; rw [gi] at g3; cases g3; cases di
  exact ⟨nd, d, tp, lab, num, e1, e2, ⟨k _ _ n1 g1, u1, u2, u3, k _ _ n2 g2⟩, ⟨v1, v2, v3, k _ _ n3 g3⟩, hlt, a1, b1, c1⟩
theorem Core.withI (C : Core w fa L f cc B DB MS P I sc dc pm ct oc none U n c kM kP tt tv h) {oi : Obj} (gi : h.get? I = some oi) : Core w fa L f cc B DB MS P I sc dc pm ct oc (some oi) U n c kM kP tt tv h := by
  obtain ⟨lt, gf, gc, gI, g183, cS, cB, cP, gB, bd, dM, dP, keys, lenP, fI, tabs, inj⟩ := C
  exact ⟨lt, gf, gc, (fun o e => by cases e; exact gi), g183, cS, cB, cP, gB, bd, dM, dP, keys, lenP, fI, tabs, inj⟩
theorem Core.noI (C : Core w fa L f cc B DB MS P I sc dc pm ct oc oI U n c kM kP tt tv h) : Core w fa L f cc B DB MS P I sc dc pm ct oc none U n c kM kP tt tv h := by
  obtain ⟨lt, gf, gc, gI, g183, cS, cB, cP, gB, bd, dM, dP, keys, lenP, fI, tabs, inj⟩ := C
  exact ⟨lt, gf, gc, (fun o e => by cases e), g183, cS, cB, cP, gB, bd, dM, dP, keys, lenP, fI, tabs, inj⟩
end
theorem rg_small {n : Int} (h0 : 1 ≤ n) (h1 : n ≤ 12) : Builtin.Range.small 0 n 1 = true ∧ Builtin.Range.rangeSize 0 n 1 = n := by
  have : n = 1 ∨ n = 2 ∨ n = 3 ∨ n = 4 ∨ n = 5 ∨ n = 6 ∨ n = 7 ∨ n = 8 ∨ n = 9 ∨ n = 10 ∨ n = 11 ∨ n = 12 := by omega
  rcases this with rfl | rfl | rfl | rfl | rfl | rfl | rfl | rfl | rfl | rfl | rfl | rfl <;> decide +kernel
section
variable {w : World} {s : Shared} {h₀ : Heap} {mg mb m : Str → Option Value} {loose : List Str} {mean : ExcName → Option Value} {fa L f cc B DB MS P sc : Nat} {dc pm ct : Value} {oc : Obj} {vs : List Value} {ns : List Int} {vsc : Array Value} {tq : Tok}
    (X : (hd.heap_39 w.params).In h₀) (T : Top topProg loose mean mg mb h₀) (Bl : Below callerA h₀ [] h₀)
/-- between two turns of the law's loop -/
def Loop (w : World) (h₀ : Heap) (fa L f cc B DB MS P I sc : Nat) (dc pm ct : Value) (oc : Obj) (i : Nat) (h : Heap) : Prop :=
  ∃ m U c kM kP tt tv, Fr h₀ L h m ∧ Core w fa L f cc B DB MS P I sc dc pm ct oc none U (2 * (i : Int)) c kM kP tt tv h ∧ (0 ≤ c ∧ c ≤ (i : Int)) ∧ m nDraw = some (.ref f) ∧ (∃ t, m nChanges = some (.int c t)) ∧
    (∃ o v, h.get? (L+1+1+1+1) = some o ∧ o.data = .cell v) ∧ (∃ o v, h.get? (L+1+1+1+1+1) = some o ∧ o.data = .cell v) ∧ ∃ o v, h.get? (L+1+1+1+1+1+1) = some o ∧ o.data = .cell v
include X T Bl
theorem main_loop (F : Fr h₀ L s.heap m) (lt : 183 < L ∧ L+1+1+1+1+1+1 < cc ∧ cc < f ∧ f < DB ∧ DB < B ∧ B < MS ∧ MS < P) (ch : CodeHd h₀ 185 183) (hl : h₀.IsList sc vs.toArray) (hi : IntsAre vs ns) (hlen : ¬ ((63 : Int) < (ns.length : Int)))
    (d1 : oc.data = .fields vsc) (d2 : vsc[1]? = some (.str (qualnameIn (envLaw fa L) (Str.ofString "draw") (Str.ofString "draw")) tq))
    (gf : s.heap.get? f = some (drawObj fa L dc pm cc ct)) (gc : s.heap.get? cc = some oc) (g183 : ∃ ps, s.heap.get? 183 = some (tabObj ps)) (cS : CIs s.heap (L+1) (.ref sc)) (cB : CIs s.heap (L+1+1) (.ref B)) (cP : CIs s.heap (L+1+1+1) (.ref P))
    (gB : s.heap.get? B = some (instObj 121 DB)) (bd : BIs w s.heap DB MS 0) (dM : DIs w s.heap MS []) (dP : DIs w s.heap P [])
    (cK : ∃ o v, s.heap.get? (L+1+1+1+1) = some o ∧ o.data = .cell v) (cD : ∃ o v, s.heap.get? (L+1+1+1+1+1) = some o ∧ o.data = .cell v) (cT : ∃ o v, s.heap.get? (L+1+1+1+1+1+1) = some o ∧ o.data = .cell v)
    (mD : m nDraw = some (.ref f)) (mC : ∃ t, m nChanges = some (.int 0 t)) {Q : Flow → Shared → Prop} (E : Value → Shared → Prop)
    (hQ : ∀ s' m', Like s s' → Fr h₀ L s'.heap m' → (∃ ps, s'.heap.get? 183 = some (tabObj ps)) → CIs s'.heap (L+1) (.ref sc) → Q .next s') :
    wpAny (model prg w) (callerA.deeper (envLaw fa L)) (exec (nth lawBody 2) (envLaw fa L)) Q E s := by
  obtain ⟨px, pos, e⟩ : ∃ px pos, nth lawBody 2 = .For (.Name (Str.ofString "k") px) (forI (nth lawBody 2)) turnBody [] pos := ⟨_, _, by with_unfolding_all rfl⟩
  obtain ⟨oS, gS, dS⟩ := id cS
  have i0 : Old h₀ L [] s.heap (L+1) := old_of F gS (by omega) (by simp)
  rw [e]
  refine wpAny_For (hs := by intro _; with_unfolding_all rfl) (wpAny_mono (lift_x F i0 fun x ox a b c _ => pre2 X T Bl ch F (news_c F gf (by omega) (news_c F gc (by omega) (news_c F gS (by omega) (news_1 a b c)))) d1 d2 dS (by omega) hl hi hlen mD) (fun v s₁ h₁ => ?_) fun _ _ e => e)
  obtain ⟨m₁, lk₁, F₁, K₁, hP⟩ := h₁
  obtain ⟨hm, R, N, rfl, ⟨t, u, v, hr⟩, hN1, hN2⟩ := hP _ i0
  obtain rfl : m₁ = m := funext hm
  have k1 : ∀ (b : Nat) o, b ≠ L → s.heap.get? b = some o → s₁.heap.get? b = some o := fun b o n e => K₁ b o n (by simp) e
  have hrg := rg_small hN1 hN2
  refine wpAny_pyIter_range hr hrg.1 ?_
  have up : ∀ (b : Nat) o, s₁.heap.get? b = some o → (s₁.heap.push { cls := .type "range_iterator", data := .fields #[rawInt 0, rawInt (Builtin.Range.rangeSize 0 N 1), rawInt 1] }).get? b = some o := fun b o e => Heap.get?_push_of_some _ e
  have k2 : ∀ (b : Nat) o, b ≠ L → s.heap.get? b = some o → (s₁.heap.push { cls := .type "range_iterator", data := .fields #[rawInt 0, rawInt (Builtin.Range.rangeSize 0 N 1), rawInt 1] }).get? b = some o := fun b o n e => up b o (k1 b o n e)
  have gI0 : (s₁.heap.push { cls := .type "range_iterator", data := .fields #[rawInt 0, rawInt (Builtin.Range.rangeSize 0 N 1), rawInt 1] }).get? s₁.heap.objs.size = some _ := Heap.get?_push_size _ rfl
  have hLI : L < s₁.heap.objs.size := F₁.ns.lt
  have lPI : P < s₁.heap.objs.size := by obtain ⟨o, g, _⟩ := dP; exact ltn (k1 _ _ (by omega) g)
  generalize hI : s₁.heap.objs.size = I at *
  generalize hh1 : s₁.heap.push { cls := .type "range_iterator", data := .fields #[rawInt 0, rawInt (Builtin.Range.rangeSize 0 N 1), rawInt 1] } = H1 at *
  rw [hrg.2] at gI0
  obtain ⟨Nn, rfl⟩ := Int.eq_ofNat_of_zero_le (by omega : 0 ≤ N)
  have W := Walks.range (prog := prg) (w := w) (A := callerA.deeper (envLaw fa L)) rfl I 0 1 Nn
  refine for_walks' (s₀ := s) W (Loop w h₀ fa L f cc B DB MS P I sc dc pm ct oc) (fun i h h' j st k => ?_) (fun i v s₂ E' lk hi' hv st j => ?_) (fun s₂ lk j => ?_) (lk₁.trans ⟨H1, s₁.toks, rfl⟩) (Nat.zero_le _) ?_ ?_ (by intro _; rfl)
  · obtain ⟨m, U, c, kM, kP, tt, tv, F', C', hc, a1, a2, b1, b2, b3⟩ := j
    have kI : ∀ (b : Nat) o, b ≠ I → h.get? b = some o → h'.get? b = some o := fun b o n e => k b o (by simpa using n) e
    have cell : ∀ {a : Nat}, a < I → (∃ o v, h.get? a = some o ∧ o.data = .cell v) → ∃ o v, h'.get? a = some o ∧ o.data = .cell v := fun {a} ha ⟨o, v, g, d⟩ => ⟨o, v, kI _ _ (by omega) g, d⟩
    have st' : h.get? I = some _ := st
    exact ⟨m, U, c, kM, kP, tt, tv, ⟨F'.ns.at' fun o e => kI L o (by omega) e, fun b o e => kI b o (Nat.ne_of_lt (Nat.lt_trans (Nat.lt_of_lt_of_le (Heap.lt_size e) F'.above) hLI)) (F'.keep b o e), F'.above⟩, C'.off st' rfl kI, hc, a1, a2, cell (by omega) b1, cell (by omega) b2, cell (by omega) b3⟩
  · obtain ⟨m, U, c, kM, kP, tt, tv, F', C', hc, mD', ⟨t8, mC'⟩, ⟨oK, vK, gK, dK⟩, cD', cT'⟩ := j
    obtain ⟨tk, rfl⟩ := hv
    have ltC := C'.lt
    have st' : s₂.heap.get? I = some _ := st
    have Ci := C'.withI st'
    have hcell : s₂.heap.IsCell (L+1+1+1+1) vK := ⟨oK, gK, dK⟩
    refine wpAny_assign_Name (wpAny_storeName_cell rfl (by with_unfolding_all rfl) (c := L+1+1+1+1) (by with_unfolding_all rfl) hcell fun h₃ hv₃ hs₃ => ?_)
    have K₃ : Keeps L [L+1+1+1+1] s₂.heap h₃ := fun b o n hd e => hs₃.extBut b o (by simpa using hd) e
    have F₃ : Fr h₀ L h₃ m := F'.change hs₃ (nn (by omega)) (by
      cases q : h₀.get? (L+1+1+1+1) with
      | none => rfl
      | some o' =>
        have h1 : L+1+1+1+1 < h₀.objs.size := Heap.lt_size q
        have h2 : h₀.objs.size ≤ L := F'.above
        omega)
    have C₃ := Ci.keep K₃ (fun d hd => by rw [List.mem_singleton.mp hd]; exact .inl rfl)
    have cell : ∀ {a : Nat}, a ≠ L+1+1+1+1 → a ≠ L → (∃ o v, s₂.heap.get? a = some o ∧ o.data = .cell v) → ∃ o v, h₃.get? a = some o ∧ o.data = .cell v := fun {a} ha hl ⟨o, v, g, d⟩ => ⟨o, v, K₃ _ _ hl (ni1 ha) g, d⟩
    have hv₃' : CIs h₃ (L+1+1+1+1) (.int ((i : Nat) : Int) tk) := by
      obtain ⟨o, g, d⟩ := hv₃
      refine ⟨o, g, ?_⟩
      rw [d]
      have : (0 : Int) + (i : Int) * 1 = (i : Int) := by omega
      rw [this]
    have C₃I : h₃.get? I = some _ := C₃.gI _ rfl
    refine wpAny_mono (turn (s := { s₂ with heap := h₃ }) X T Bl F₃ C₃ ⟨_, C₃I⟩ (k := (i : Int)) ⟨by omega, by omega⟩ rfl hc ch hl hi hlen d1 d2 hv₃' (cell (by omega) (by omega) cD') (cell (by omega) (by omega) cT') mD' mC' E') (fun fl s₄ h₄ => ?_) fun _ _ e => e
    obtain ⟨rfl, m₄, U₄, c₄, kM₄, kP₄, tt₄, tv₄, lk₄, F₄, C₄, hc₄, a1, a2, b1, b2, b3⟩ := h₄
    have e2 : (2 : Int) * (((i + 1 : Nat)) : Int) = 2 * (i : Int) + 2 := by push_cast; omega
    refine ⟨rfl, (lk.trans ⟨h₃, s₂.toks, rfl⟩).trans lk₄, C₄.gI _ rfl, m₄, U₄, c₄, kM₄, kP₄, tt₄, tv₄, F₄, ?_, ⟨hc₄.1, by push_cast; omega⟩, a1, a2, b1, b2, b3⟩
    rw [e2]
    exact C₄.noI
  · obtain ⟨m, U, c, kM, kP, tt, tv, F', C', _⟩ := j
    exact hQ s₂ m lk F' C'.g183 C'.cS
  · show H1.get? I = some _
    rw [gI0]
    simp
  · have cell : ∀ {a : Nat}, a ≠ L → (∃ o v, s.heap.get? a = some o ∧ o.data = .cell v) → ∃ o v, H1.get? a = some o ∧ o.data = .cell v := fun {a} ha ⟨o, v, g, d⟩ => ⟨o, v, k2 _ _ ha g, d⟩
    refine ⟨m₁, I + 1, 0, [], [], fun _ => [], fun _ => [], hh1 ▸ F₁.push _, ⟨by omega, k2 _ _ (by omega) gf, k2 _ _ (by omega) gc, (fun o e => by cases e), g183.imp fun ps g => k2 _ _ (by omega) g, cis_up' cS fun o g => k2 _ _ (by omega) g, cis_up' cB fun o g => k2 _ _ (by omega) g, cis_up' cP fun o g => k2 _ _ (by omega) g, k2 _ _ (by omega) gB, bis_up bd fun o g => k2 _ _ (by omega) g, dis_up dM fun o g => k2 _ _ (by omega) g, dis_up dP fun o g => k2 _ _ (by omega) g, rfl, by simp, ?_, ?_, ?_⟩, ⟨by omega, by simp⟩, mD, mC, cell (by omega) cK, cell (by omega) cD, cell (by omega) cT⟩
    · intro mod h; simp [valueAt] at h
    · intro mod u v h; simp [valueAt] at h
    · intro mod mod' TM h; simp [valueAt] at h
end
end Mine
namespace Mine
section
variable {w : World} {s : Shared} {h₀ : Heap} {mg mb m : Str → Option Value} {loose : List Str} {mean : ExcName → Option Value} {fa L sc : Nat} {vs : List Value} {ns : List Int} {oS : Obj}
    (X : (hd.heap_39 w.params).In h₀) (T : Top topProg loose mean mg mb h₀) (Bl : Below callerA h₀ [] h₀)
include X T Bl
theorem law_body (F : Fr h₀ L s.heap m) (ch : CodeHd h₀ 185 183) (g183 : s.heap.get? 183 = some (tabObj #[])) (n183 : h₀.get? 183 = none) (lt : 183 < L) (hl : h₀.IsList sc vs.toArray) (hi : IntsAre vs ns) (hlen : ¬ ((63 : Int) < (ns.length : Int)))
    (gS : s.heap.get? (L+1) = some oS) (dS : oS.data = .cell (some (.ref sc))) (cB : ∃ o v, s.heap.get? (L+1+1) = some o ∧ o.data = .cell v) (cP : ∃ o v, s.heap.get? (L+1+1+1) = some o ∧ o.data = .cell v)
    (cK : ∃ o v, s.heap.get? (L+1+1+1+1) = some o ∧ o.data = .cell v) (cD : ∃ o v, s.heap.get? (L+1+1+1+1+1) = some o ∧ o.data = .cell v) (cT : ∃ o v, s.heap.get? (L+1+1+1+1+1+1) = some o ∧ o.data = .cell v) (E : Value → Shared → Prop) :
    wpAny (model prg w) (callerA.deeper (envLaw fa L)) (execs lawBody (envLaw fa L)) (fun fl s' => fl = .ret (.bool true) ∧ Like s s' ∧ (∃ m', Fr h₀ L s'.heap m') ∧ ∃ ps, s'.heap.get? 183 = some (tabObj ps)) E s := by
  have eB : lawBody = [nth lawBody 0, nth lawBody 1, nth lawBody 2, nth lawBody 3] := by with_unfolding_all rfl
  obtain ⟨k3, p3, pos3, e3⟩ : ∃ k p pos, nth lawBody 3 = .Return (some (.Constant (.bool true) k p)) pos := ⟨_, _, _, by with_unfolding_all rfl⟩
  obtain ⟨oT, vT, gT, dT⟩ := cT
  have n183' : (183 : Nat) ≠ L := by omega
  have N183 : ∀ r, News h₀ L s.heap r → News h₀ L s.heap ((183, tabObj #[]) :: r) := fun r N p hp => by
    rcases List.mem_cons.mp hp with rfl | hp
    · exact ⟨g183, n183', n183⟩
    · exact N _ hp
  rw [eB]
  have i0 : Old h₀ L [183] s.heap (L+1+1+1+1+1+1) := old_of F gT (by omega) (ni1 (by omega))
  refine seq (lift_x F i0 fun x ox a b c d => pre0 X T Bl ch F (news_c F gS (by omega) (news_c F gT (by omega) (N183 _ (news_1 a b c)))) dS lt (by simpa using d)) i0 (fun _ _ _ _ h => h.1) fun s₁ m₁ lk₁ F₁ K₁ hP₁ => ?_
  obtain ⟨_, hm₁, f, cc, dc, pm, ct, oc, vsc, tq, mD, gf, gc, d1, d2, l1, l2, ps, g183₁⟩ := hP₁ _ i0
  have g1 : ∀ (b : Nat) o, b ≠ L → b ≠ 183 → s.heap.get? b = some o → s₁.heap.get? b = some o := fun b o n n' e => K₁ b o n (ni1 n') e
  have cell1 : ∀ {a : Nat}, a ≠ L → a ≠ 183 → (∃ o v, s.heap.get? a = some o ∧ o.data = .cell v) → ∃ o v, s₁.heap.get? a = some o ∧ o.data = .cell v := fun {a} h1 h2 ⟨o, v, g, d⟩ => ⟨o, v, g1 _ _ h1 h2 g, d⟩
  obtain ⟨oB, vB, gB, dB⟩ := cell1 (by omega) (by omega) cB
  obtain ⟨oP, vP, gP, dP⟩ := cell1 (by omega) (by omega) cP
  have i1 : Old h₀ L [L+1+1, L+1+1+1] s₁.heap f := old_of F₁ gf (by omega) (ni2 (by omega) (by omega))
  refine seq (lift_x F₁ i1 fun x ox a b c d => pre1 X T Bl F₁ (news_c F₁ gB (by omega) (news_c F₁ gP (by omega) (news_c F₁ (g1 _ _ (by omega) (by omega) gT) (by omega) (news_1 a b c)))) dB dP (by simpa using d)) i1 (fun _ _ _ _ h => h.1) fun s₂ m₂ lk₂ F₂ K₂ hP₂ => ?_
  obtain ⟨_, hm₂, mC, B, DB, MS, P, cB₂, cP₂, gB₂, bd₂, dM₂, dP₂, l3, l4, l5, l6, l7⟩ := hP₂ _ i1
  have g2 : ∀ (b : Nat) o, b ≠ L → b ≠ L+1+1 → b ≠ L+1+1+1 → s₁.heap.get? b = some o → s₂.heap.get? b = some o := fun b o n n' n'' e => K₂ b o n (ni2 n' n'') e
  have cell2 : ∀ {a : Nat}, a ≠ L → a ≠ 183 → a ≠ L+1+1 → a ≠ L+1+1+1 → (∃ o v, s.heap.get? a = some o ∧ o.data = .cell v) → ∃ o v, s₂.heap.get? a = some o ∧ o.data = .cell v := fun {a} h1 h2 h3 h4 ⟨o, v, g, d⟩ => ⟨o, v, g2 _ _ h1 h3 h4 (g1 _ _ h1 h2 g), d⟩
  refine wpAny_execs_cons (main_loop X T Bl F₂ (f := f) (cc := cc) (B := B) (DB := DB) (MS := MS) (P := P) (by omega) ch hl hi hlen d1 d2 (g2 _ _ (by omega) (by omega) (by omega) gf) (g2 _ _ (by omega) (by omega) (by omega) gc) ⟨ps, g2 _ _ (by omega) (by omega) (by omega) g183₁⟩ ⟨oS, g2 _ _ (by omega) (by omega) (by omega) (g1 _ _ (by omega) (by omega) gS), dS⟩ cB₂ cP₂ gB₂ bd₂ dM₂ dP₂
    (cell2 (by omega) (by omega) (by omega) (by omega) cK) (cell2 (by omega) (by omega) (by omega) (by omega) cD) (cell2 (by omega) (by omega) (by omega) (by omega) ⟨oT, vT, gT, dT⟩) ((hm₂ _ (by decide +kernel)).trans mD) mC E fun s₃ m₃ lk₃ F₃ g183₃ _ => ?_)
  show wpAny _ _ (execs [nth lawBody 3] _) _ _ _
  refine wpAny_execs_cons ?_
  rw [e3]
  refine wpAny_Return_some (wpAny_Constant_bool ?_)
  exact ⟨rfl, (lk₁.trans lk₂).trans lk₃, ⟨m₃, F₃⟩, g183₃⟩
end
end Mine
theorem Mine.lawholds : PySem.Challenge.rw_ff0017_01.Holds := Mine.hd (by
  w_on
  w_strict (k_go0
            refine wpAny_mono (Mine.law_body (by assumption) (by assumption) (by assumption) (by assumption) (by assumption) (News.get (by assumption) (by k_mem)) (News.fresh (by assumption) (by k_mem)) (by assumption) (by assumption) (by assumption) (by first | assumption | omega) (News.get (by assumption) (by k_mem)) ?hs ⟨_, _, News.get (by assumption) (by k_mem), by assumption⟩ ⟨_, _, News.get (by assumption) (by k_mem), by assumption⟩ ⟨_, _, News.get (by assumption) (by k_mem), by assumption⟩ ⟨_, _, News.get (by assumption) (by k_mem), by assumption⟩ ⟨_, _, News.get (by assumption) (by k_mem), by assumption⟩ _) ?_ (fun _ _ e => e)
            · refine Eq.trans (by assumption) ?_
              rfl
            · intro f' s' hq'
              obtain ⟨rfl, ⟨h', tk', rfl⟩, ⟨m', F'⟩, ps', g'⟩ := hq'
              refine And.intro ?_ ⟨⟨ps', g'⟩, trivial⟩
              k_steps))
theorem PySem.Challenge.cw_ff0017_01_holds : PySem.Challenge.rw_ff0017_01.Holds := by
  exact Mine.lawholds
