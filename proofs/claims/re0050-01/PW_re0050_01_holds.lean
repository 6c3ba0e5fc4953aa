import PyProof.Rows.All
import Wide.All
import OpenK.AllK
import Wide.FinOn
import Flt.RightMore
import PySem.Challenge.RW_re0050_01
open PySem PySem.W PyProof.Rows
set_option Elab.async false
set_option maxRecDepth 100000
namespace Mine

/-- no run takes a token back -/
theorem runs_toks {M : Model} {Γ : Ctx} {p : Pos} {t : Sem Fin} {fs : List Frame} {s s' : Shared} {e : End} (h : Runs M Γ p t fs s e s') : s.toks ≤ s'.toks := by
  induction h with
  | done => exact Nat.le_refl _
  | raise => exact Nat.le_refl _
  | yield => exact Nat.le_refl _
  | fresh _ ih => exact Nat.le_trans (Nat.le_succ _) ih
  | call _ _ a b => exact Nat.le_trans a b
  | resumeFresh _ _ _ _ a b => exact Nat.le_trans a b
  | resumeSuspended _ _ _ _ a b => exact Nat.le_trans a b
  | segRet _ _ a b => exact Nat.le_trans a b
  | segGen _ _ a b => exact Nat.le_trans a b
  | segSuspGen _ _ _ _ a b => exact Nat.le_trans a b
  | _ => assumption
theorem wakes_toks {M : Model} {Γ : Ctx} {p : Pos} {g : Nat} {r : Resume} {s s' : Shared} {res : GenResult} (h : Wakes M Γ p g r s res s') : s.toks ≤ s'.toks := by
  unfold Wakes at h
  split at h
  · exact h.elim
  · split at h
    · obtain ⟨e, s1, hr, _, _, rfl⟩ := h; have q := runs_toks hr; exact q
    · rw [h.2]; exact Nat.le_refl _
    · rw [h.2]; exact Nat.le_refl _
  · obtain ⟨e, s1, hr, _, _, rfl⟩ := h; have q := runs_toks hr; exact q
  · rw [h.2]; exact Nat.le_refl _
  · rw [h.2]; exact Nat.le_refl _

theorem wp_toks {α : Type} {M : Model} {Γ : Ctx} {n : Nat} {Q : α → Pos → Shared → Prop} {E : Value → Pos → Shared → Prop} (t : Sem α) : ∀ (p : Pos) (s : Shared), n ≤ s.toks → Sem.wp M Γ t Q E p s → Sem.wp M Γ t (fun a p' s' => Q a p' s' ∧ n ≤ s'.toks) E p s := by
  induction t with
  | pure a => intro p s hn h; rw [Sem.wp] at h ⊢; exact ⟨h, hn⟩
  | raise e => intro p s hn h; rw [Sem.wp] at h ⊢; exact h
  | unsupported _ => intro p s hn h; rw [Sem.wp] at h; exact h.elim
  | finish _ => intro p s hn h; rw [Sem.wp] at h; exact h.elim
  | register _ _ _ => intro p s hn h; rw [Sem.wp] at h; exact h.elim
  | yield _ _ _ _ _ => intro p s hn h; rw [Sem.wp] at h; exact h.elim
  | fork _ _ _ => intro p s hn h; rw [Sem.wp] at h; exact h.elim
  | await _ _ _ _ _ _ => intro p s hn h; rw [Sem.wp] at h; exact h.elim
  | load _ _ _ ih => intro p s hn h; rw [Sem.wp] at h ⊢; obtain ⟨o, a, b⟩ := h; exact ⟨o, a, ih _ _ _ hn b⟩
  | update _ _ _ _ ih => intro p s hn h; rw [Sem.wp] at h ⊢; exact ⟨h.1, ih _ _ _ hn h.2⟩
  | choose _ _ _ ih => intro p s hn h; rw [Sem.wp] at h ⊢; exact ⟨h.1, ih _ _ _ hn h.2⟩
  | genState _ _ ih => intro p s hn h; rw [Sem.wp] at h ⊢; obtain ⟨o, a, b⟩ := h; exact ⟨o, a, ih _ _ _ hn b⟩
  | fresh _ ih => intro p s hn h; rw [Sem.wp] at h ⊢; exact ih _ _ _ (Nat.le_trans hn (Nat.le_succ _)) h
  | call _ _ _ _ _ ih => intro p s hn h; rw [Sem.wp] at h ⊢; obtain ⟨r, s', hr, hk⟩ := h; exact ⟨r, s', hr, ih _ _ _ (Nat.le_trans hn (runs_toks hr)) hk⟩
  | resume _ _ _ _ ih => intro p s hn h; rw [Sem.wp] at h ⊢; obtain ⟨r, s', hr, hk⟩ := h; exact ⟨r, s', hr, ih _ _ _ (Nat.le_trans hn (wakes_toks hr)) hk⟩
  | rule _ _ ih => intro p s hn h; rw [Sem.wp] at h ⊢; exact ih _ _ _ hn h
  | «at» _ _ ih => intro p s hn h; rw [Sem.wp] at h ⊢; exact ih _ _ _ hn h
  | loadIfAlive _ _ ih => intro p s hn h; rw [Sem.wp] at h ⊢; exact ih _ _ _ hn h
  | point _ _ ih => intro p s hn h; rw [Sem.wp] at h ⊢; exact ih _ _ _ hn h
  | alloc _ _ ih => intro p s hn h; rw [Sem.wp] at h ⊢; exact ih _ _ _ hn h
  | ask _ ih => intro p s hn h; rw [Sem.wp] at h ⊢; exact ih _ _ _ hn h
  | os _ _ _ ih => intro p s hn h; rw [Sem.wp] at h ⊢; exact ih _ _ _ hn h
  | handled _ _ ih => intro p s hn h; rw [Sem.wp] at h ⊢; exact ih _ _ _ hn h
  | newGen _ _ ih => intro p s hn h; rw [Sem.wp] at h ⊢; exact ih _ _ _ hn h
  | stack _ ih => intro p s hn h; rw [Sem.wp] at h ⊢; exact ih _ _ _ hn h
  | thread _ ih => intro p s hn h; rw [Sem.wp] at h ⊢; exact ih _ _ _ hn h

/-- what runs from a state with a token drawn may count on one behind it -/
theorem toks_in {α : Type} {M : Model} {A : Around} {t : Sem α} {Q : α → Shared → Prop} {E : Value → Shared → Prop} {s : Shared} (hp : 0 < s.toks) (h : wpAny M A t (fun a s' => 0 < s'.toks → Q a s') E s) : wpAny M A t Q E s := fun Γ p hΓ =>
  Sem.wp_mono M Γ t (fun _ _ _ q => q.1 q.2) (fun _ _ _ q => q) p s (wp_toks (n := 1) t p s hp (h Γ p hΓ))
theorem toks_code {M : Model} {A : Around} {c : Code} {R : Result → Shared → Prop} {s : Shared} (hp : 0 < s.toks) (h : codeAny M A c (fun r s' => 0 < s'.toks → R r s') s) : codeAny M A c R s := fun Γ p hc hb => by
  obtain ⟨r, s', hr, q⟩ := h Γ p hc hb
  exact ⟨r, s', hr, q (Nat.lt_of_lt_of_le hp (runs_toks hr))⟩
end Mine
namespace Mine

/-- plain data; own: a list that one variable alone holds and that may grow -/
inductive D where
  | none
  | bool (b : Bool)
  | int (i : Int)
  | flt (x : UInt64)
  | str (s : PySem.Str)
  | tup (l : List D)
  | lst (l : List D)
  | own (l : List D)
  | rng (n : Int)
  | scr (ns : List Int)

mutual
inductive Rep (h : Heap) (Z : Addr → Prop) : Value → D → Prop
  | none : Rep h Z .none .none
  | bool (b : Bool) : Rep h Z (.bool b) (.bool b)
  | int (i : Int) (t : Tok) : Rep h Z (.int i t) (.int i)
  | flt (x : UInt64) (t : Tok) : 0 < t → Rep h Z (.float x t) (.flt x)
  | str (x : PySem.Str) (t : Tok) : Rep h Z (.str x t) (.str x)
  | tup {a : Addr} {vs : List Value} {ds : List D} : ¬ Z a → IsTup h a vs.toArray → Reps h Z vs ds → Rep h Z (.ref a) (.tup ds)
  | lst {a : Addr} {vs : List Value} {ds : List D} : ¬ Z a → h.PlainList a vs.toArray → Reps h Z vs ds → Rep h Z (.ref a) (.lst ds)
  | scr {a : Addr} {vs : List Value} {ns : List Int} : ¬ Z a → h.IsList a vs.toArray → IntsAre vs ns → Rep h Z (.ref a) (.scr ns)
  | rng {a : Addr} {n : Int} {t u v : Tok} : ¬ Z a → IsRange h a 0 n 1 t u v → Rep h Z (.ref a) (.rng n)
inductive Reps (h : Heap) (Z : Addr → Prop) : List Value → List D → Prop
  | nil : Reps h Z [] []
  | cons {v : Value} {d : D} {vs : List Value} {ds : List D} : Rep h Z v d → Reps h Z vs ds → Reps h Z (v :: vs) (d :: ds)
end

theorem istup_at {h h' : Heap} {a : Addr} {items : Array Value} (x : IsTup h a items) (e : ∀ o, h.get? a = some o → h'.get? a = some o) : IsTup h' a items := let ⟨o, ho, r⟩ := x; ⟨o, e _ ho, r⟩
theorem istup_some {h : Heap} {a : Addr} {items : Array Value} (x : IsTup h a items) : ∃ o, h.get? a = some o := let ⟨o, ho, _⟩ := x; ⟨o, ho⟩
theorem islist_some {h : Heap} {a : Addr} {items : Array Value} (x : h.IsList a items) : ∃ o, h.get? a = some o := let ⟨o, ho, _⟩ := x; ⟨o, ho⟩

section
variable {h h' : Heap} {Z Z' : Addr → Prop}

/-- the one law of change: objects outside Z stay; Z' has at most new addresses more -/
theorem Rep.move (hk : ∀ b o, ¬ Z b → h.get? b = some o → h'.get? b = some o) (hz : ∀ b, Z' b → Z b ∨ h.get? b = Option.none) {v : Value} {d : D} (r : Rep h Z v d) : Rep h' Z' v d := by
  have key : ∀ a, ¬ Z a → (∃ o, h.get? a = some o) → ¬ Z' a := fun a hn ⟨o, ho⟩ hz' => by
    rcases hz a hz' with q | q
    · exact hn q
    · rw [ho] at q; cases q
  refine Rep.rec (motive_1 := fun v d _ => Rep h' Z' v d) (motive_2 := fun vs ds _ => Reps h' Z' vs ds) ?_ ?_ ?_ ?_ ?_ ?_ ?_ ?_ ?_ ?_ ?_ r
  · exact .none
  · exact fun b => .bool b
  · exact fun i t => .int i t
  · exact fun x t ht => .flt x t ht
  · exact fun x t => .str x t
  · exact fun hn ht _ ih => .tup (key _ hn (istup_some ht)) (istup_at ht fun o e => hk _ o hn e) ih
  · exact fun hn ht _ ih => .lst (key _ hn (islist_some ht.isList)) (ht.at fun o e => hk _ o hn e) ih
  · exact fun hn ht hi => .scr (key _ hn (islist_some ht)) (ht.at fun o e => hk _ o hn e) hi
  · exact fun hn ht => .rng (key _ hn ⟨_, ht⟩) (hk _ _ hn ht)
  · exact .nil
  · exact fun _ _ a b => .cons a b
theorem Reps.move (hk : ∀ b o, ¬ Z b → h.get? b = some o → h'.get? b = some o) (hz : ∀ b, Z' b → Z b ∨ h.get? b = Option.none) : ∀ {vs : List Value} {ds : List D}, Reps h Z vs ds → Reps h' Z' vs ds
  | _, _, .nil => .nil
  | _, _, .cons a b => .cons (a.move hk hz) (b.move hk hz)
theorem Rep.keeps (hk : ∀ b o, h.get? b = some o → h'.get? b = some o) {v : Value} {d : D} (r : Rep h Z v d) : Rep h' Z v d := r.move (fun b o _ e => hk b o e) fun _ q => .inl q
theorem Reps.keeps (hk : ∀ b o, h.get? b = some o → h'.get? b = some o) {vs : List Value} {ds : List D} (r : Reps h Z vs ds) : Reps h' Z vs ds := r.move (fun b o _ e => hk b o e) fun _ q => .inl q
theorem Rep.weaken (hz : ∀ b, Z' b → Z b) {v : Value} {d : D} (r : Rep h Z v d) : Rep h Z' v d := r.move (fun _ _ _ e => e) fun b q => .inl (hz b q)
theorem Reps.weaken (hz : ∀ b, Z' b → Z b) {vs : List Value} {ds : List D} (r : Reps h Z vs ds) : Reps h Z' vs ds := r.move (fun _ _ _ e => e) fun b q => .inl (hz b q)
theorem Reps.length : ∀ {vs : List Value} {ds : List D}, Reps h Z vs ds → vs.length = ds.length
  | _, _, .nil => rfl
  | _, _, .cons _ b => by simp [b.length]
theorem Reps.get : ∀ {vs : List Value} {ds : List D}, Reps h Z vs ds → ∀ (i : Nat) (d : D), ds[i]? = some d → ∃ v, vs[i]? = some v ∧ Rep h Z v d
  | _, _, .nil, i, d, e => by simp at e
  | _, _, .cons a b, i, d, e => by
    cases i with
    | zero => simp at e; subst e; exact ⟨_, by simp, a⟩
    | succ i => simp at e; simpa using b.get i d e
theorem Reps.at : ∀ {vs : List Value} {ds : List D}, Reps h Z vs ds → ∀ (i : Nat) (v : Value), vs[i]? = some v → ∃ d, ds[i]? = some d ∧ Rep h Z v d
  | _, _, .nil, i, d, e => by simp at e
  | _, _, .cons a b, i, v, e => by
    cases i with
    | zero => simp at e; subst e; exact ⟨_, by simp, a⟩
    | succ i => simp at e; simpa using b.at i v e
theorem Reps.append : ∀ {vs vs' : List Value} {ds ds' : List D}, Reps h Z vs ds → Reps h Z vs' ds' → Reps h Z (vs ++ vs') (ds ++ ds')
  | _, _, _, _, .nil, r => r
  | _, _, _, _, .cons a b, r => .cons a (b.append r)
theorem Reps.snoc {vs : List Value} {ds : List D} {v : Value} {d : D} (r : Reps h Z vs ds) (q : Rep h Z v d) : Reps h Z (vs ++ [v]) (ds ++ [d]) := r.append (.cons q .nil)
end

/-- what is fixed in a proof: the program, the world, the global names' values, the heap at the law's call, how deep we are -/
structure Cx where
  prog : Program
  w : World
  G : PySem.Str → Option Value
  h₀ : Heap
  k : Nat

structure BaseOk (C : Cx) : Prop where
  glo : ∃ mg mb, C.h₀.Ns mainGlobals mg ∧ C.h₀.Ns builtinsNs mb ∧ ∀ x v, C.G x = some v → mg x = some v ∨ (mg x = none ∧ mb x = some v)
  nolim : C.h₀.NoLimit
  nob : NoneBooked C.h₀

structure AOk (k : Nat) (A : Around) : Prop where
  hh : A.handled = none
  dep : A.depth ≤ 400 + k
  uni : A.units ≤ 100 + 10 * k

noncomputable def Sees (env : Env) (h : Heap) (x : PySem.Str) (v : Value) : Prop :=
  (env.kindOf x = some .local ∧ ∃ m, h.Ns env.locals m ∧ m x = some v) ∨
  ((env.kindOf x = some .cell ∨ env.kindOf x = some .free) ∧ ∃ c, env.cells.lookup x = some c ∧ h.IsCell c (some v))
theorem Sees.keeps {env : Env} {h h' : Heap} {x : PySem.Str} {v : Value} (hk : ∀ b o, h.get? b = some o → h'.get? b = some o) (r : Sees env h x v) : Sees env h' x v :=
  r.imp (fun ⟨a, m, b, c⟩ => ⟨a, m, b.keeps hk, c⟩) fun ⟨a, c, b, d⟩ => ⟨a, c, b, d.keeps hk⟩

noncomputable def VRep (h : Heap) (Z : Addr → Prop) (v : Value) : D → Prop
  | .own ds => ∃ a vs, v = .ref a ∧ h.PlainList a vs.toArray ∧ Reps h Z vs ds
  | d => Rep h Z v d
noncomputable def D.isOwn : D → Bool
  | .own _ => true
  | _ => false
theorem VRep.of {h : Heap} {Z : Addr → Prop} {v : Value} {d : D} (r : Rep h Z v d) : VRep h Z v d := by cases r <;> (unfold VRep; constructor <;> assumption)
theorem VRep.to {h : Heap} {Z : Addr → Prop} {v : Value} {d : D} (r : VRep h Z v d) (hd : d.isOwn = false) : Rep h Z v d := by
  cases d <;> first | exact r | (simp [D.isOwn] at hd)

abbrev St := PySem.Str → Option D
noncomputable def upd (σ : St) (x : PySem.Str) (d : D) : St := fun y => if y = x then some d else σ y

structure View (C : Cx) (env : Env) (h : Heap) (Z : Addr → Prop) (σ : St) : Prop where
  base : BaseOk C
  keep : ∀ b o, C.h₀.get? b = some o → h.get? b = some o
  kind : env.scope.kind = .function
  glb : env.globals = mainGlobals
  bui : env.builtins = builtinsNs
  zin : ∀ a, Z a → ∃ o, h.get? a = some o
  var : ∀ x d, σ x = some d → ∃ v, Sees env h x v ∧ VRep h Z v d

theorem VRep.move {h h' : Heap} {Z Z' : Addr → Prop} (hk : ∀ b o, ¬ Z b → h.get? b = some o → h'.get? b = some o) (hz : ∀ b, Z' b → Z b ∨ h.get? b = Option.none) {v : Value} {d : D}
    (ho : ∀ l a, d = .own l → v = .ref a → ∀ o, h.get? a = some o → h'.get? a = some o) (r : VRep h Z v d) : VRep h' Z' v d := by
  cases d with
  | own l => obtain ⟨a, vs, rfl, hl, hr⟩ := r; exact ⟨a, vs, rfl, hl.at fun o e => ho l a rfl rfl o e, hr.move hk hz⟩
  | _ => exact Rep.move hk hz r

theorem View.keeps {C : Cx} {env : Env} {h h' : Heap} {Z : Addr → Prop} {σ : St} (V : View C env h Z σ) (hk : ∀ b o, h.get? b = some o → h'.get? b = some o) : View C env h' Z σ where
  base := V.base
  keep := fun b o e => hk b o (V.keep b o e)
  kind := V.kind
  glb := V.glb
  bui := V.bui
  zin := fun a q => let ⟨o, e⟩ := V.zin a q; ⟨o, hk _ _ e⟩
  var := fun x d e => let ⟨v, a, b⟩ := V.var x d e; ⟨v, a.keeps hk, b.move (fun b o _ e => hk b o e) (fun _ q => .inl q) fun _ _ _ _ o e => hk _ o e⟩
theorem View.fresh {C : Cx} {env : Env} {h : Heap} {Z : Addr → Prop} {σ : St} (V : View C env h Z σ) {a : Addr} (e : h.get? a = none) : ¬ Z a := fun q => by
  obtain ⟨o, e'⟩ := V.zin a q; rw [e] at e'; cases e'

/-- a view of a state, with a token drawn -/
structure VV (C : Cx) (env : Env) (s : Shared) (Z : Addr → Prop) (σ : St) : Prop extends View C env s.heap Z σ where
  tk : 0 < s.toks

structure Kp (s s' : Shared) : Prop where
  eq : ∃ h' tk, s' = { s with heap := h', toks := tk }
  old : ∀ b o, s.heap.get? b = some o → s'.heap.get? b = some o
theorem Kp.rfl' (s : Shared) : Kp s s := ⟨⟨s.heap, s.toks, rfl⟩, fun _ _ e => e⟩
theorem Kp.tok (s : Shared) (t : Nat) : Kp s { s with toks := t } := ⟨⟨s.heap, t, rfl⟩, fun _ _ e => e⟩
theorem Kp.tr {s₁ s₂ s₃ : Shared} (a : Kp s₁ s₂) (b : Kp s₂ s₃) : Kp s₁ s₃ := by
  obtain ⟨⟨h, tk, rfl⟩, k⟩ := a
  obtain ⟨⟨h', tk', rfl⟩, k'⟩ := b
  exact ⟨⟨h', tk', rfl⟩, fun b o e => k' b o (k b o e)⟩
theorem Kp.mk' {s : Shared} {h' : Heap} {tk : Nat} (k : ∀ b o, s.heap.get? b = some o → h'.get? b = some o) : Kp s { s with heap := h', toks := tk } := ⟨⟨h', tk, rfl⟩, k⟩
theorem Kp.mkh {s : Shared} {h' : Heap} (k : ∀ b o, s.heap.get? b = some o → h'.get? b = some o) : Kp s { s with heap := h' } := ⟨⟨h', s.toks, rfl⟩, k⟩
theorem get_size (h : Heap) : h.get? h.objs.size = none := by
  cases e : h.get? h.objs.size with
  | none => rfl
  | some o => exact absurd (Heap.lt_size e) (Nat.lt_irrefl _)
theorem Kp.push (s : Shared) (o : Obj) : Kp s { s with heap := s.heap.push o } := .mkh fun _ _ e => Heap.get?_push_of_some _ e

/-- the expression e gives d -/
noncomputable def Ev (C : Cx) (sc : Scope) (σ : St) (e : PySem.Expr) (d : D) : Prop :=
  ∀ (env : Env) (A : Around) (s : Shared) (Z : Addr → Prop), env.scope = sc → AOk C.k A → VV C env s Z σ →
    wpAny (model C.prog C.w) A (eval e env) (fun v s' => Kp s s' ∧ Rep s'.heap Z v d) (fun _ _ => False) s
/-- the expressions es, in a row -/
noncomputable def Evs (C : Cx) (sc : Scope) (σ : St) (es : List PySem.Expr) (ds : List D) : Prop :=
  ∀ (env : Env) (A : Around) (s : Shared) (Z : Addr → Prop) (pos : Pos), env.scope = sc → AOk C.k A → VV C env s Z σ →
    wpAny (model C.prog C.w) A (spliced (backTo pos (starEach es env))) (fun vs s' => Kp s s' ∧ Reps s'.heap Z vs ds) (fun _ _ => False) s
/-- the test e gives b -/
noncomputable def Tst (C : Cx) (sc : Scope) (σ : St) (e : PySem.Expr) (b : Bool) : Prop :=
  ∀ (env : Env) (A : Around) (s : Shared) (Z : Addr → Prop), env.scope = sc → AOk C.k A → VV C env s Z σ →
    wpAny (model C.prog C.w) A (isTrue e env (eval e env)) (fun b' s' => Kp s s' ∧ b' = b) (fun _ _ => False) s

section
variable {C : Cx} {sc : Scope} {σ : St}

theorem Ev.conv {e : PySem.Expr} {d d' : D} (x : Ev C sc σ e d) (q : d = d') : Ev C sc σ e d' := q ▸ x
theorem Tst.conv {e : PySem.Expr} {d d' : Bool} (x : Tst C sc σ e d) (q : d = d') : Tst C sc σ e d' := q ▸ x

/-- a value that the rest goes on with -/
theorem Ev.then {e : PySem.Expr} {d : D} {env : Env} {A : Around} {s : Shared} {Z : Addr → Prop} {Q : Value → Shared → Prop} (x : Ev C sc σ e d) (he : env.scope = sc) (hA : AOk C.k A) (V : VV C env s Z σ)
    (h : ∀ v s', Kp s s' → VV C env s' Z σ → Rep s'.heap Z v d → Q v s') : wpAny (model C.prog C.w) A (eval e env) Q (fun _ _ => False) s :=
  toks_in V.tk (wpAny_mono (x env A s Z he hA V) (fun v s' ⟨k, r⟩ p => h v s' k ⟨V.keeps k.old, p⟩ r) fun _ _ f => f)
theorem Evs.then {es : List PySem.Expr} {ds : List D} {env : Env} {A : Around} {s : Shared} {Z : Addr → Prop} {pos : Pos} {Q : List Value → Shared → Prop} (x : Evs C sc σ es ds) (he : env.scope = sc) (hA : AOk C.k A) (V : VV C env s Z σ)
    (h : ∀ vs s', Kp s s' → VV C env s' Z σ → Reps s'.heap Z vs ds → Q vs s') : wpAny (model C.prog C.w) A (spliced (backTo pos (starEach es env))) Q (fun _ _ => False) s :=
  toks_in V.tk (wpAny_mono (x env A s Z pos he hA V) (fun v s' ⟨k, r⟩ p => h v s' k ⟨V.keeps k.old, p⟩ r) fun _ _ f => f)
theorem Tst.then {e : PySem.Expr} {b : Bool} {env : Env} {A : Around} {s : Shared} {Z : Addr → Prop} {Q : Bool → Shared → Prop} (x : Tst C sc σ e b) (he : env.scope = sc) (hA : AOk C.k A) (V : VV C env s Z σ)
    (h : ∀ s', Kp s s' → VV C env s' Z σ → Q b s') : wpAny (model C.prog C.w) A (isTrue e env (eval e env)) Q (fun _ _ => False) s :=
  toks_in V.tk (wpAny_mono (x env A s Z he hA V) (fun _ s' ⟨k, r⟩ p => r ▸ h s' k ⟨V.keeps k.old, p⟩) fun _ _ f => f)

theorem Evs.nil : Evs C sc σ [] [] := fun _ _ s _ _ _ _ _ => wpAny_items_nil ⟨.rfl' s, .nil⟩
noncomputable def notStar : PySem.Expr → Bool
  | .Starred .. => false
  | _ => true
theorem starEach_cons {e : PySem.Expr} {rest : List PySem.Expr} {env : Env} (h : notStar e = true) : starEach (e :: rest) env = (false, eval e env) :: starEach rest env := by
  cases e <;> first | rfl | (cases h)
theorem Evs.cons {e : PySem.Expr} {rest : List PySem.Expr} {d : D} {ds : List D} (x : Ev C sc σ e d) (xs : Evs C sc σ rest ds) (hs : notStar e = true := by rfl) : Evs C sc σ (e :: rest) (d :: ds) := by
  intro env A s Z pos he hA V
  refine wpAny_items_cons (x.then he hA V fun v s' k V' r => ?_) (starEach_cons hs)
  exact xs.then he hA V' fun vs s'' k' V'' r' => ⟨k.tr k', .cons (r.keeps k'.old) r'⟩

-- constants
theorem Ev.int {i : Int} {k : Nat} {pos : Pos} : Ev C sc σ (.Constant (.int i) k pos) (.int i) := fun _ _ s _ _ _ _ => wpAny_Constant_int ⟨.tok s _, .int _ _⟩
theorem Ev.flt {x : UInt64} {k : Nat} {pos : Pos} : Ev C sc σ (.Constant (.float x) k pos) (.flt x) := fun _ _ s _ _ _ V => (fun _ _ _ => ⟨.tok s _, .flt _ _ V.tk⟩)
theorem Ev.str {x : PySem.Str} {k : Nat} {pos : Pos} : Ev C sc σ (.Constant (.str x) k pos) (.str x) := fun _ _ s _ _ _ _ => wpAny_Constant_str ⟨.tok s _, .str _ _⟩
theorem Ev.bool {b : Bool} {k : Nat} {pos : Pos} : Ev C sc σ (.Constant (.bool b) k pos) (.bool b) := fun _ _ s _ _ _ _ => wpAny_Constant_bool ⟨.rfl' s, .bool _⟩

-- names
theorem loadName_sees {M : Model} {A : Around} {E : Value → Shared → Prop} {s : Shared} {env : Env} {x : PySem.Str} {v : Value} {Q : Value → Shared → Prop} (hk : env.scope.kind = .function) (r : Sees env s.heap x v) (h : Q v s)
    (hn : (x == ("__classdict__" : PySem.Str)) = false) : wpAny M A (loadName env x) Q E s := by
  rcases r with ⟨hl, m, hm, hv⟩ | ⟨hl, c, hc, hv⟩
  · exact wpAny_loadName_local hk hl hm hv h
  · rcases hl with hl | hl
    · exact wpAny_loadName_cell hk hl hc hv h
    · exact wpAny_loadName_free hk hl hc hv h hn
theorem Ev.name {x : PySem.Str} {pos : Pos} {d : D} (hx : σ x = some d) (ho : d.isOwn = false := by rfl) (hd : (x == ("__debug__" : PySem.Str)) = false := by decide) (hn : (x == ("__classdict__" : PySem.Str)) = false := by decide) :
    Ev C sc σ (.Name x pos) d := by
  intro env A s Z he hA V
  obtain ⟨v, hs, hr⟩ := V.var x d hx
  exact wpAny_Name (loadName_sees V.kind hs ⟨.rfl' s, hr.to ho⟩ hn) hd

-- operators
noncomputable def Bop (C : Cx) (op : Operator) (d1 d2 d : D) : Prop :=
  ∀ (A : Around) (s : Shared) (Z : Addr → Prop) (v1 v2 : Value), AOk C.k A → 0 < s.toks → (∀ a, Z a → ∃ o, s.heap.get? a = some o) → Rep s.heap Z v1 d1 → Rep s.heap Z v2 d2 →
    wpAny (model C.prog C.w) A (binaryOp op v1 v2) (fun v s' => Kp s s' ∧ Rep s'.heap Z v d) (fun _ _ => False) s
theorem Ev.binop {l r : PySem.Expr} {op : Operator} {pos : Pos} {d1 d2 d : D} (hl : Ev C sc σ l d1) (hr : Ev C sc σ r d2) (ho : Bop C op d1 d2 d) : Ev C sc σ (.BinOp l op r pos) d := by
  intro env A s Z he hA V
  refine wpAny_BinOp (hl.then he hA V fun v1 s1 k1 V1 r1 => hr.then he hA V1 fun v2 s2 k2 V2 r2 => ?_)
  exact wpAny_mono (ho A s2 Z v1 v2 hA V2.tk V2.zin (r1.keeps k2.old) r2) (fun v s' ⟨k, q⟩ => ⟨(k1.tr k2).tr k, q⟩) fun _ _ f => f

noncomputable def Cmp (C : Cx) (op : CmpOp) (d1 d2 : D) (b : Bool) : Prop :=
  ∀ (A : Around) (s : Shared) (Z : Addr → Prop) (v1 v2 : Value), AOk C.k A → BaseOk C → (∀ b o, C.h₀.get? b = some o → s.heap.get? b = some o) → Rep s.heap Z v1 d1 → Rep s.heap Z v2 d2 →
    wpAny (model C.prog C.w) A (compareOp op v1 v2) (fun v s' => Kp s s' ∧ v = .bool b) (fun _ _ => False) s
end
end Mine
namespace Mine
section
variable {C : Cx} {sc : Scope} {σ : St}

-- arithmetic of ints
theorem Bop.add_int {a b : Int} : Bop C .Add (.int a) (.int b) (.int (a + b)) := by
  intro A s Z v1 v2 hA hP hz r1 r2; cases r1; cases r2; exact PyProof.Rows.add_int ⟨.tok s _, .int _ _⟩
theorem Bop.sub_int {a b : Int} : Bop C .Sub (.int a) (.int b) (.int (a - b)) := by
  intro A s Z v1 v2 hA hP hz r1 r2; cases r1; cases r2; exact PyProof.Rows.sub_int ⟨.tok s _, .int _ _⟩
theorem Bop.mul_int {a b : Int} (h : a.natAbs < 2 ^ 64 ∨ b.natAbs < 2 ^ 64) : Bop C .Mult (.int a) (.int b) (.int (a * b)) := by
  intro A s Z v1 v2 hA hP hz r1 r2; cases r1; cases r2
  have bits : ∀ x : Int, x.natAbs < 2 ^ 64 → Builtin.Int.intBits x ≤ 64 := fun x hx => intBits_le_64 (by omega) (by omega)
  exact PyProof.Rows.mul_int ⟨.tok s _, .int _ _⟩ (h.elim (fun h => .of_left (bits _ h)) fun h => .of_right (bits _ h))
theorem Bop.floordiv_int {a b : Int} (hb : b ≠ 0) (hs : b.natAbs < 1073741824) : Bop C .FloorDiv (.int a) (.int b) (.int (a.fdiv b)) := by
  intro A s Z v1 v2 hA hP hz r1 r2; cases r1; cases r2; exact PyProof.Rows.floordiv_int hb ⟨.tok s _, .int _ _⟩ (.inl (PyProof.noPylong_small hs))
theorem Bop.mod_int {a b : Int} (hb : b ≠ 0) : Bop C .Mod (.int a) (.int b) (.int (a.fmod b)) := by
  intro A s Z v1 v2 hA hP hz r1 r2; cases r1; cases r2; exact PyProof.Rows.mod_int' hb ⟨.tok s _, .int _ _⟩
theorem Bop.pow_int {a n : Int} (hn : 0 ≤ n) (hn2 : n ≤ 1000000) (ha : a.natAbs < 2 ^ 64) : Bop C .Pow (.int a) (.int n) (.int (a ^ n.toNat)) := by
  intro A s Z v1 v2 hA hP hz r1 r2; cases r1; cases r2; exact pow_int_small hn hn2 ha ⟨.tok s _, .int _ _⟩
theorem Bop.shl_int {a n : Int} (hn : 0 ≤ n) (hn2 : n ≤ 1000000) (ha : a.natAbs < 2 ^ 64) : Bop C .LShift (.int a) (.int n) (.int (a * 2 ^ n.toNat)) := by
  intro A s Z v1 v2 hA hP hz r1 r2; cases r1; cases r2; exact lshift_int_small hn hn2 ha ⟨.tok s _, .int _ _⟩
theorem Bop.and_int {a b : Int} : Bop C .BitAnd (.int a) (.int b) (.int (Builtin.bitAnd a b)) := by
  intro A s Z v1 v2 hA hP hz r1 r2; cases r1; cases r2; exact PyProof.Rows.and_int ⟨.tok s _, .int _ _⟩
theorem Bop.div_int {a b : Int} (hb : b ≠ 0) (hi : Float64.isInf (Float64.ofFrac (decide (a < 0) != decide (b < 0)) a.natAbs b.natAbs) = false) :
    Bop C .Div (.int a) (.int b) (.flt (Float64.ofFrac (decide (a < 0) != decide (b < 0)) a.natAbs b.natAbs)) := by
  intro A s Z v1 v2 hA hP hz r1 r2; cases r1; cases r2
  exact AutoIntOps.truediv_2 (by simpa using hb) (by rw [hi]; decide) ⟨.tok s _, .flt _ _ hP⟩

-- floats
theorem Bop.add_flt {a b : UInt64} : Bop C .Add (.flt a) (.flt b) (.flt (Float64.add a b)) := by
  intro A s Z v1 v2 hA hP hz r1 r2; cases r1; cases r2; exact add_float ⟨.tok s _, .flt _ _ hP⟩
theorem Bop.sub_flt {a b : UInt64} : Bop C .Sub (.flt a) (.flt b) (.flt (Float64.sub a b)) := by
  intro A s Z v1 v2 hA hP hz r1 r2; cases r1; cases r2; exact sub_float ⟨.tok s _, .flt _ _ hP⟩
theorem Bop.mul_flt {a b : UInt64} : Bop C .Mult (.flt a) (.flt b) (.flt (Float64.mul a b)) := by
  intro A s Z v1 v2 hA hP hz r1 r2; cases r1; cases r2; exact mul_float ⟨.tok s _, .flt _ _ hP⟩
theorem Bop.div_flt {a b : UInt64} (hb : Float64.isZero b = false) : Bop C .Div (.flt a) (.flt b) (.flt (Float64.div a b)) := by
  intro A s Z v1 v2 hA hP hz r1 r2; cases r1; cases r2; exact AutoFloatOps.truediv_1 (by rw [hb]; decide) ⟨.tok s _, .flt _ _ hP⟩
theorem Bop.mod_flt {a b : UInt64} (hb : Float64.isZero b = false) : Bop C .Mod (.flt a) (.flt b) (.flt (Float64.divmod a b).snd) := by
  intro A s Z v1 v2 hA hP hz r1 r2; cases r1; cases r2; exact AutoFloatOps.mod_1 (by rw [hb]; decide) ⟨.tok s _, .flt _ _ hP⟩
theorem Bop.sub_fi {a : UInt64} {n : Int} (hn : n.natAbs < 2 ^ 64) : Bop C .Sub (.flt a) (.int n) (.flt (Float64.sub a (Float64.ofInt n))) := by
  intro A s Z v1 v2 hA hP hz r1 r2; cases r1; cases r2
  exact sub_fi_fits (Nat.lt_trans hn (Nat.pow_lt_pow_right (by decide) (by decide))) ⟨.tok s _, .flt _ _ hP⟩
theorem Bop.mul_fi {a : UInt64} {n : Int} (hn : n.natAbs < 2 ^ 64) : Bop C .Mult (.flt a) (.int n) (.flt (Float64.mul a (Float64.ofInt n))) := by
  intro A s Z v1 v2 hA hP hz r1 r2; cases r1; cases r2
  exact mul_fi_fits (Nat.lt_trans hn (Nat.pow_lt_pow_right (by decide) (by decide))) ⟨.tok s _, .flt _ _ hP⟩
theorem Bop.div_fi {a : UInt64} {n : Int} (hi : Float64.isInf (Float64.ofInt n) = false) (h0 : Float64.isZero (Float64.ofInt n) = false) : Bop C .Div (.flt a) (.int n) (.flt (Float64.div a (Float64.ofInt n))) := by
  intro A s Z v1 v2 hA hP hz r1 r2; cases r1; cases r2
  exact AutoFloatOps.truediv_fi_2 (by rw [hi]; decide) (by rw [h0]; decide) ⟨.tok s _, .flt _ _ hP⟩

-- texts, lists
theorem Bop.add_str {x y : PySem.Str} (h : x.length + y.length ≤ sizeLine) : Bop C .Add (.str x) (.str y) (.str (x ++ y)) := by
  intro A s Z v1 v2 hA hP hz r1 r2; cases r1; cases r2; exact PyProof.Rows.add_str (fun t' tk => ⟨.tok s _, .str _ _⟩) h
theorem fresh_of {h : Heap} {Z : Addr → Prop} (hz : ∀ a, Z a → ∃ o, h.get? a = some o) : ¬ Z h.objs.size := fun q => by
  obtain ⟨o, e⟩ := hz _ q; rw [get_size] at e; cases e
theorem Rep.newList {h : Heap} {Z : Addr → Prop} {vs : List Value} {ds : List D} (hz : ∀ a, Z a → ∃ o, h.get? a = some o) (r : Reps h Z vs ds) :
    Rep (h.push { cls := .type "list", data := .seq vs.toArray }) Z (.ref h.objs.size) (.lst ds) :=
  .lst (fresh_of hz) ⟨_, Heap.get?_push_size _ rfl⟩ (r.keeps fun _ _ e => Heap.get?_push_of_some _ e)
theorem Rep.newTup {h : Heap} {Z : Addr → Prop} {vs : List Value} {ds : List D} (hz : ∀ a, Z a → ∃ o, h.get? a = some o) (r : Reps h Z vs ds) :
    Rep (h.push { cls := .type "tuple", data := .seq vs.toArray }) Z (.ref h.objs.size) (.tup ds) :=
  .tup (fresh_of hz) ⟨_, Heap.get?_push_size _ rfl, rfl, _, rfl⟩ (r.keeps fun _ _ e => Heap.get?_push_of_some _ e)
theorem Bop.add_lst {x y : List D} (h : x.length + y.length ≤ sizeLine) : Bop C .Add (.lst x) (.lst y) (.lst (x ++ y)) := by
  intro A s Z v1 v2 hA hP hz r1 r2
  cases r1 with | @lst a vs _ n1 p1 q1 => cases r2 with | @lst b ws _ n2 p2 q2 =>
    obtain ⟨k1, e1⟩ := p1; obtain ⟨k2, e2⟩ := p2
    refine P.add_list e1 e2 ⟨.push s _, ?_⟩ (by rw [List.size_toArray, List.size_toArray, q1.length, q2.length]; exact h)
    have := Rep.newList hz (q1.append q2)
    simpa using this
theorem mul_list' {prog : Program} {w : World} {A : Around} {E : Value → Shared → Prop} {s : Shared} {l : Addr} {items : Array Value} {k : Nat} {x : Int} {u : Tok} {Q : Value → Shared → Prop}
    (hl : s.heap.get? l = some { cls := .type "list", dict := none, data := .seq items k, slots := #[] })
    (hlo : -(2 ^ 63 : Int) ≤ x) (hhi : x < 2 ^ 63) (hsz : items.size * x.toNat ≤ 2 ^ 24)
    (h : Q (.ref s.heap.objs.size) { s with heap := s.heap.push { cls := .type "list", data := .seq (List.foldl (fun x1 x2 => x1 ++ x2) #[] (List.replicate (if items.isEmpty = true then 0 else x.toNat) items)) } }) :
    wpAny (model prog w) A (binaryOp .Mult (.ref l) (.int x u)) Q E s :=
  wpAny_binaryOp_repeat_ref (T := "list") (U := "int") (by decide) ⟨_, hl, rfl⟩ (fun s' => typeIs_int s' x u) noFill_list_mul F.fills_int_mul F.slot_int_rmul repeat_list F.slot_int_index.lookup
    (call_meets F.slot_int_rmul (typeIs_int s x u) F.entry_int_rmul (F.args_int_rmul_2 _ _) (int___rmul___int_list x u l items k)
      ⟨hl, rfl, ⟨_, hl, rfl⟩, call_meets F.slot_list_mul ⟨_, hl, rfl⟩ F.entry_list_mul (F.args_list_mul_2 _ _)
        (AutoListH.list___mul___list_int_3 l items k x u (by simp [Builtin.List.listFitsIndex]; omega) (by omega) (by simp [Builtin.List.listTooLong, sizeLine]; omega))
        ⟨hl, h⟩⟩)
theorem foldl_rep (v : Value) (n : Nat) : List.foldl (fun x1 x2 => x1 ++ x2) #[] (List.replicate n #[v]) = (List.replicate n v).toArray := by
  have : ∀ (n : Nat) (acc : Array Value), List.foldl (fun x1 x2 => x1 ++ x2) acc (List.replicate n #[v]) = acc ++ (List.replicate n v).toArray := by
    intro n
    induction n with
    | zero => intro acc; simp
    | succ n ih => intro acc; rw [List.replicate_succ, List.foldl_cons, ih, List.replicate_succ]; apply Array.ext'; simp
  rw [this]; simp
theorem Reps.replicate {h : Heap} {Z : Addr → Prop} {v : Value} {d : D} (r : Rep h Z v d) : ∀ n, Reps h Z (List.replicate n v) (List.replicate n d)
  | 0 => .nil
  | n + 1 => .cons r (Reps.replicate r n)
theorem Bop.mul_lst1 {d : D} {n : Int} (hn : 0 ≤ n) (hn' : n ≤ 2 ^ 20) : Bop C .Mult (.lst [d]) (.int n) (.lst (List.replicate n.toNat d)) := by
  intro A s Z v1 v2 hA hP hz r1 r2
  cases r1 with | @lst a vs _ n1 p1 q1 =>
    cases q1 with | cons q0 qn =>
    cases qn; cases r2; obtain ⟨k1, e1⟩ := p1
    refine mul_list' e1 (by omega) (by omega) (by simp; omega) ⟨.push s _, ?_⟩
    have := Rep.newList hz (Reps.replicate q0 n.toNat)
    simpa [foldl_rep] using this

-- comparisons
theorem Cmp.eq_int {a b : Int} : Cmp C .Eq (.int a) (.int b) (a == b) := by
  intro A s Z v1 v2 hA _ _ r1 r2; cases r1; cases r2; exact PyProof.Rows.eq_int ⟨.rfl' s, rfl⟩
theorem Cmp.ne_int {a b : Int} : Cmp C .NotEq (.int a) (.int b) (a != b) := by
  intro A s Z v1 v2 hA _ _ r1 r2; cases r1; cases r2; exact PyProof.Rows.ne_int ⟨.rfl' s, rfl⟩
theorem Cmp.lt_int {a b : Int} : Cmp C .Lt (.int a) (.int b) (decide (a < b)) := by
  intro A s Z v1 v2 hA _ _ r1 r2; cases r1; cases r2; exact PyProof.Rows.lt_int ⟨.rfl' s, rfl⟩
theorem Cmp.gt_int {a b : Int} : Cmp C .Gt (.int a) (.int b) (decide (b < a)) := by
  intro A s Z v1 v2 hA _ _ r1 r2; cases r1; cases r2; exact PyProof.Rows.gt_int ⟨.rfl' s, rfl⟩
theorem Cmp.ge_int {a b : Int} : Cmp C .GtE (.int a) (.int b) (decide (b ≤ a)) := by
  intro A s Z v1 v2 hA _ _ r1 r2; cases r1; cases r2; exact PyProof.Rows.ge_int ⟨.rfl' s, rfl⟩
theorem Cmp.eq_flt {a b : UInt64} : Cmp C .Eq (.flt a) (.flt b) (Float64.cmp a b == some Ordering.eq) := by
  intro A s Z v1 v2 hA _ _ r1 r2; cases r1; cases r2; exact AutoFloatOps.eq_0 ⟨.rfl' s, rfl⟩
theorem Cmp.le_flt {a b : UInt64} : Cmp C .LtE (.flt a) (.flt b) (Float64.cmp a b == some Ordering.lt || Float64.cmp a b == some Ordering.eq) := by
  intro A s Z v1 v2 hA _ _ r1 r2; cases r1; cases r2; exact AutoFloatOps.le_0 ⟨.rfl' s, rfl⟩
theorem Cmp.ne_fi {a : UInt64} {n : Int} : Cmp C .NotEq (.flt a) (.int n) (Float64.cmpInt a n != some Ordering.eq) := by
  intro A s Z v1 v2 hA _ _ r1 r2; cases r1; cases r2; exact PyProof.Rows.ne_fi ⟨.rfl' s, rfl⟩
end
end Mine
namespace Mine
section
variable {C : Cx} {sc : Scope} {σ : St}

theorem Ev.cmp {l r : PySem.Expr} {op : CmpOp} {pos : Pos} {d1 d2 : D} {b : Bool} (hl : Ev C sc σ l d1) (hr : Ev C sc σ r d2) (ho : Cmp C op d1 d2 b)
    (hm : behindInMarks op r = false := by with_unfolding_all rfl) : Ev C sc σ (.Compare l [op] [r] pos) (.bool b) := by
  intro env A s Z he hA V
  refine wpAny_Compare1 (hl.then he hA V fun v1 s1 k1 V1 r1 => hr.then he hA V1 fun v2 s2 k2 V2 r2 => ?_) hm
  refine wpAny_mono (ho A s2 Z v1 v2 hA V2.base V2.keep (r1.keeps k2.old) r2) (fun v s' ⟨k, q⟩ => ⟨(k1.tr k2).tr k, ?_⟩) fun _ _ f => f
  subst q; exact .bool b

theorem Tst.cmp {l r : PySem.Expr} {op : CmpOp} {pos : Pos} {d1 d2 : D} {b : Bool} (hl : Ev C sc σ l d1) (hr : Ev C sc σ r d2) (ho : Cmp C op d1 d2 b)
    (hm : behindInMarks op r = false := by with_unfolding_all rfl) : Tst C sc σ (.Compare l [op] [r] pos) b := by
  intro env A s Z he hA V
  refine wpAny_isTrue_Compare1 (hl.then he hA V fun v1 s1 k1 V1 r1 => hr.then he hA V1 fun v2 s2 k2 V2 r2 => ?_) hm
  refine wpAny_mono (ho A s2 Z v1 v2 hA V2.base V2.keep (r1.keeps k2.old) r2) (fun v s' ⟨k, q⟩ => ?_) fun _ _ f => f
  subst q; exact wpAny_truthy_bool ⟨(k1.tr k2).tr k, rfl⟩

theorem Tst.not {x : PySem.Expr} {pos : Pos} {b : Bool} (h : Tst C sc σ x b) : Tst C sc σ (.UnaryOp .Not x pos) (!b) := by
  intro env A s Z he hA V
  exact wpAny_isTrue_Not (h.then he hA V fun s' k _ => ⟨k, rfl⟩)

/-- all of es hold, or the first that does not ends it -/
theorem Tst.and_all {es : List PySem.Expr} {pos : Pos} (h : ∀ e ∈ es, Tst C sc σ e true) : Tst C sc σ (.BoolOp .And es pos) true := by
  intro env A s Z he hA V
  refine wpAny_isTrue_BoolOp ?_
  clear pos
  induction es generalizing s with
  | nil => exact wpAny_allTrue_And_nil ⟨.rfl' s, rfl⟩
  | cons e r ih =>
    refine wpAny_allTrue_And_cons ((h e (.head _)).then he hA V fun s' k V' => ?_)
    rw [if_pos rfl]
    exact wpAny_mono (ih (fun e he => h e (.tail _ he)) s' V') (fun b s'' ⟨k', q⟩ => ⟨k.tr k', q⟩) fun _ _ f => f
theorem Tst.or_none {es : List PySem.Expr} {pos : Pos} (h : ∀ e ∈ es, Tst C sc σ e false) : Tst C sc σ (.BoolOp .Or es pos) false := by
  intro env A s Z he hA V
  refine wpAny_isTrue_BoolOp ?_
  clear pos
  induction es generalizing s with
  | nil => exact wpAny_allTrue_Or_nil ⟨.rfl' s, rfl⟩
  | cons e r ih =>
    refine wpAny_allTrue_Or_cons ((h e (.head _)).then he hA V fun s' k V' => ?_)
    rw [if_neg (by decide)]
    exact wpAny_mono (ih (fun e he => h e (.tail _ he)) s' V') (fun b s'' ⟨k', q⟩ => ⟨k.tr k', q⟩) fun _ _ f => f

/-- truth of data -/
inductive Truth : D → Bool → Prop
  | bool (b : Bool) : Truth (.bool b) b
  | int (i : Int) : Truth (.int i) (i != 0)
  | str (x : PySem.Str) : Truth (.str x) (x.length != 0)

theorem Ev.ifexp {t b e : PySem.Expr} {pos : Pos} {c : Bool} {d : D} (ht : Tst C sc σ t c) (hb : c = true → Ev C sc σ b d) (he' : c = false → Ev C sc σ e d) : Ev C sc σ (.IfExp t b e pos) d := by
  intro env A s Z he hA V
  refine wpAny_IfExp (ht.then he hA V fun s' k V' => ?_)
  cases c with
  | true => rw [if_pos rfl]; exact (hb rfl).then he hA V' fun v s'' k' _ r => ⟨k.tr k', r⟩
  | false => rw [if_neg (by decide)]; exact (he' rfl).then he hA V' fun v s'' k' _ r => ⟨k.tr k', r⟩

theorem Ev.tuple {es : List PySem.Expr} {ds : List D} {k : Nat} {pos : Pos} (h : Evs C sc σ es ds) (hsz : ds.length ≤ sizeLine := by exact Nat.le_of_ble_eq_true rfl) : Ev C sc σ (.Tuple es k pos) (.tup ds) := by
  intro env A s Z he hA V
  refine wpAny_Tuple (h.then he hA V fun vs s' k V' r => ⟨by rw [r.length]; exact hsz, k.tr (.push s' _), Rep.newTup V'.zin r⟩)
theorem Ev.list {es : List PySem.Expr} {ds : List D} {pos : Pos} (h : Evs C sc σ es ds) (hsz : ds.length ≤ sizeLine := by exact Nat.le_of_ble_eq_true rfl) : Ev C sc σ (.List es pos) (.lst ds) := by
  intro env A s Z he hA V
  refine wpAny_List (h.then he hA V fun vs s' k V' r => ⟨by rw [r.length]; exact hsz, k.tr (.push s' _), Rep.newList V'.zin r⟩)

-- items
theorem tail_any {A : Around} {E : Value → Shared → Prop} {s : Shared} {prog : Program} {w : World} {value slice : PySem.Expr} {o i : Value} {T id : String} {ops : List Value} {Q : Value → Shared → Prop} (hT : s.TypeIs o T)
    (hl : typeLookup (.type T) "__getitem__" = pure (some (.builtin id))) (h : wpAny (model prog w) A (getItem o i) Q E s)
    (hs : subscripted slice false o i = operate ops (getItem o i)) :
    wpAny (model prog w) A (subscriptTail value slice o i) Q E s := by
  unfold subscriptTail
  refine wpAny_bind ?_
  rw [getitemInPython_of_ne hT.not_modules]
  refine wpAny_bind (wpAny_specialOf hT hl ?_)
  have fin : wpAny (model prog w) A (subscripted slice false o i) (fun r s₃ => wpAny (model prog w) A (letTemporaryGo value o r >>= fun _ => pure r) Q E s₃) E s := by
    rw [hs]
    exact wpAny_operating (wpAny_mono h (fun r s₃ h₃ => wpAny_bind (wpAny_letTemporaryGo (wpAny_pure h₃))) fun _ _ x => x)
  first
    | exact wpAny_pure (wpAny_bind fin)
    | exact wpAny_bind (wpAny_pure (wpAny_bind fin))
    | exact wpAny_bind fin
noncomputable def plainIndex : PySem.Expr → Bool
  | .Slice .. => false
  | _ => true
theorem subscripted_plain {slice : PySem.Expr} {o i : Value} (h : plainIndex slice = true) : subscripted slice false o i = operate [o, i] (getItem o i) := by
  cases slice <;> first | rfl | (cases h)

theorem Tst.val {e : PySem.Expr} {d : D} {b : Bool} (h : Ev C sc σ e d) (ht : Truth d b) (hz : ∀ x, d = .str x → x.length ≤ sizeLine := by intro x q; cases q)
    (he' : ∀ env whole, isTrue e env whole = (do let v ← whole; standAt e.pos; holding [v] (truthy v)) := by intro _ _; rfl) : Tst C sc σ e b := by
  intro env A s Z he hA V
  refine wpAny_isTrue_value (h.then he hA V fun v s' k V' r => ?_) (he' _ _)
  cases ht with
  | bool b => cases r; exact wpAny_truthy_bool ⟨k, rfl⟩
  | int i => cases r; exact PyProof.Rows.truthy_int ⟨k, rfl⟩
  | str x =>
    cases r
    have hx := hz x rfl
    have h24 : sizeLine = 2 ^ 24 := rfl
    refine P.truthy_str (by omega) ⟨k.tr (.tok s' _), ?_⟩
    cases hl : x.length <;> rfl

theorem Ev.neg {x : PySem.Expr} {pos : Pos} {i : Int} (h : Ev C sc σ x (.int i)) : Ev C sc σ (.UnaryOp .USub x pos) (.int (-i)) := by
  intro env A s Z he hA V
  refine wpAny_UnaryOp (h.then he hA V fun v s' k V' r => ?_)
  cases r; exact PyProof.Rows.neg_int ⟨k.tr (.tok s' _), .int _ _⟩

theorem Ev.item {l i : PySem.Expr} {pos : Pos} {ds : List D} {k : Int} {d : D} (hl : Ev C sc σ l (.lst ds)) (hi : Ev C sc σ i (.int k)) (h0 : 0 ≤ k) (h1 : k < 2 ^ 63) (hd : ds[k.toNat]? = some d)
    (hp : plainIndex i = true := by rfl) : Ev C sc σ (.Subscript l i pos) d := by
  intro env A s Z he hA V
  refine Subscript_ (hl.then he hA V fun v1 s1 k1 V1 r1 => hi.then he hA V1 fun v2 s2 k2 V2 r2 => ?_)
  have r1' := r1.keeps k2.old
  cases r2
  cases r1' with | lst hn hL hr =>
  obtain ⟨v, hv, q⟩ := hr.get _ _ hd
  exact tail_any hL.isList.typeIs slot_list_getitem.lookup (wpAny_getItem_list hL.isList h0 h1 (by simpa using hv) ⟨k1.tr k2, q⟩) (subscripted_plain hp)
theorem Ev.itemNeg {l i : PySem.Expr} {pos : Pos} {ds : List D} {k : Int} {d : D} (hl : Ev C sc σ l (.lst ds)) (hi : Ev C sc σ i (.int k)) (h0 : k < 0) (h1 : -(ds.length : Int) ≤ k) (hb : -(2 ^ 63) ≤ k) (hd : ds[(k + ds.length).toNat]? = some d)
    (hp : plainIndex i = true := by rfl) : Ev C sc σ (.Subscript l i pos) d := by
  intro env A s Z he hA V
  refine Subscript_ (hl.then he hA V fun v1 s1 k1 V1 r1 => hi.then he hA V1 fun v2 s2 k2 V2 r2 => ?_)
  have r1' := r1.keeps k2.old
  cases r2
  cases r1' with | lst hn hL hr =>
  obtain ⟨v, hv, q⟩ := hr.get _ _ hd
  have hlen := hr.length
  exact tail_any hL.isList.typeIs slot_list_getitem.lookup (wpAny_getItem_list_neg hL.isList h0 (by rw [List.size_toArray, hlen]; exact h1) hb (by rw [List.size_toArray, hlen]; simpa using hv) ⟨k1.tr k2, q⟩) (subscripted_plain hp)
theorem Ev.itemTup {l i : PySem.Expr} {pos : Pos} {ds : List D} {k : Int} {d : D} (hl : Ev C sc σ l (.tup ds)) (hi : Ev C sc σ i (.int k)) (h0 : 0 ≤ k) (h1 : k < 2 ^ 63) (hd : ds[k.toNat]? = some d)
    (hp : plainIndex i = true := by rfl) : Ev C sc σ (.Subscript l i pos) d := by
  intro env A s Z he hA V
  refine Subscript_ (hl.then he hA V fun v1 s1 k1 V1 r1 => hi.then he hA V1 fun v2 s2 k2 V2 r2 => ?_)
  have r1' := r1.keeps k2.old
  cases r2
  cases r1' with | @tup a vs _ hn hL hr =>
  obtain ⟨v, hv, q⟩ := hr.get _ _ hd
  have hlt : k.toNat < ds.length := by
    rcases Nat.lt_or_ge k.toNat ds.length with h | h
    · exact h
    · rw [List.getElem?_eq_none h] at hd; cases hd
  have hj : seqIndex? k vs.toArray.size = some k.toNat := by
    have e : vs.toArray.size = ds.length := by rw [List.size_toArray, hr.length]
    rw [e]
    have hk : ¬ k < 0 := by omega
    have hk2 : k < (ds.length : Int) := by omega
    simp [seqIndex?, hk, h0, hk2]
  exact tail_any hL.typeIs slot_tuple_getitem.lookup (PyProof.Rows.getItem_tuple hL (by omega) h1 hj (by simpa using hv) ⟨k1.tr k2, q⟩) (subscripted_plain hp)

theorem zin_push {h : Heap} {Z : Addr → Prop} (hz : ∀ a, Z a → ∃ o, h.get? a = some o) (o : Obj) : ∀ a, Z a → ∃ o', (h.push o).get? a = some o' := fun a q => let ⟨o', e⟩ := hz a q; ⟨o', Heap.get?_push_of_some _ e⟩
theorem Rep.newListA {h : Heap} {Z : Addr → Prop} {items : Array Value} {ds : List D} (hz : ∀ a, Z a → ∃ o, h.get? a = some o) (r : ∀ h', Reps h' Z items.toList ds) :
    Rep (h.push { cls := .type "list", data := .seq items }) Z (.ref h.objs.size) (.lst ds) := by
  have := Rep.newList hz (r h); simpa using this
theorem Reps.ofInts {h : Heap} {Z : Addr → Prop} : ∀ {vs : List Value} {ns : List Int}, IntsAre vs ns → Reps h Z vs (ns.map .int)
  | _, _, .nil => .nil
  | _, _, .cons _ _ r => .cons (.int _ _) (Reps.ofInts r)
theorem Ev.sliceFull {l lo hi st : PySem.Expr} {pos p : Pos} {ns : List Int} {a b c : Int} (hl : Ev C sc σ l (.scr ns)) (h1 : Ev C sc σ lo (.int a)) (h2 : Ev C sc σ hi (.int b)) (h3 : Ev C sc σ st (.int c)) (hc : c ≠ 0) (hsz : ns.length ≤ sizeLine) :
    Ev C sc σ (.Subscript l (.Slice (some lo) (some hi) (some st) p) pos) (.lst ((pickNums ns (some a) (some b) (some c)).map .int)) := by
  intro env A s Z he hA V
  refine Subscript_ (hl.then he hA V fun v1 s1 k1 V1 r1 => wpAny_Slice ?_)
  rw [evalPart_some, evalPart_some, evalPart_some]
  refine h1.then he hA V1 fun w1 s2 k2 V2 q1 => h2.then he hA V2 fun w2 s3 k3 V3 q2 => h3.then he hA V3 fun w3 s4 k4 V4 q3 => ?_
  cases q1; cases q2; cases q3
  cases ((r1.keeps k2.old).keeps k3.old).keeps k4.old with | scr hn hL hi =>
  have hlen := hi.length
  refine tail_any (ops := [_, _]) (Heap.IsList.typeIs (s := { s4 with heap := s4.heap.push _ }) (hL.push _)) list_getitem_lookup
    (wpAny_getItem_list_slice (hL.push _) (Heap.IsSliceOf.new ..) (.int _ _) (.int _ _) (.int _ _) (by simpa using hc) ?_ (by rw [List.size_toArray]; omega)) rfl
  refine ⟨((k1.tr k2).tr (k3.tr k4)).tr (Kp.tr (.push s4 _) (.push _ _)), ?_⟩
  have hp := hi.pick (some a) (some b) (some c)
  exact Rep.newListA (zin_push V4.zin _) (fun _ => Reps.ofInts hp)
theorem Ev.sliceTo {l hi : PySem.Expr} {pos p : Pos} {ns : List Int} {b : Int} (hl : Ev C sc σ l (.scr ns)) (h2 : Ev C sc σ hi (.int b)) (hsz : ns.length ≤ sizeLine) :
    Ev C sc σ (.Subscript l (.Slice none (some hi) none p) pos) (.lst ((pickNums ns none (some b) none).map .int)) := by
  intro env A s Z he hA V
  refine Subscript_ (hl.then he hA V fun v1 s1 k1 V1 r1 => wpAny_Slice ?_)
  rw [evalPart_some, evalPart_none]
  refine wpAny_pure (h2.then he hA V1 fun w2 s3 k3 V3 q2 => wpAny_pure ?_)
  cases q2
  cases r1.keeps k3.old with | scr hn hL hi =>
  have hlen := hi.length
  refine tail_any (ops := [_, _]) (Heap.IsList.typeIs (s := { s3 with heap := s3.heap.push _ }) (hL.push _)) list_getitem_lookup
    (wpAny_getItem_list_slice (hL.push _) (Heap.IsSliceOf.new ..) .none (.int _ _) .none (by simp) ?_ (by rw [List.size_toArray]; omega)) rfl
  refine ⟨(k1.tr k3).tr (Kp.tr (.push s3 _) (.push _ _)), ?_⟩
  have hp := hi.pick none (some b) none
  exact Rep.newListA (zin_push V3.zin _) (fun _ => Reps.ofInts hp)
end
end Mine
namespace Mine
section
variable {C : Cx} {sc : Scope} {σ : St}

/-- a call of fv upon data -/
noncomputable def Cal (C : Cx) (fv : Value) (ds : List D) (d : D) : Prop :=
  ∀ (A : Around) (s : Shared) (Z : Addr → Prop) (vs : List Value), AOk C.k A → 0 < s.toks → BaseOk C → (∀ b o, C.h₀.get? b = some o → s.heap.get? b = some o) → (∀ a, Z a → ∃ o, s.heap.get? a = some o) → Reps s.heap Z vs ds →
    wpAny (model C.prog C.w) A (call fv vs) (fun v s' => Kp s s' ∧ Rep s'.heap Z v d) (fun _ _ => False) s

theorem Cal.conv {fv : Value} {ds : List D} {d d' : D} (h : Cal C fv ds d) (q : d = d') : Cal C fv ds d' := q ▸ h

/-- how callWith comes to the call -/
inductive Callee (C : Cx) : Value → Prop
  | builtin (id : String) : Callee C (.builtin id)
  | type (T : String) : Callee C (.type T)
  | fn {a : Addr} {o : Obj} {fd : FuncData} : C.h₀.get? a = some o → o.data = .func fd → Callee C (.ref a)

theorem plain_args {es : List PySem.Expr} {env : Env} {pos : Pos} (h : es.all notStar = true) : (backTo pos (starEach es env)).any (·.1) = false := by
  induction es with
  | nil => rfl
  | cons e r ih =>
    rw [List.all_cons, Bool.and_eq_true] at h
    rw [starEach_cons h.1]
    show (false || (backTo pos (starEach r env)).any (·.1)) = false
    rw [ih h.2]; rfl

theorem load_glob {M : Model} {A : Around} {E : Value → Shared → Prop} {s : Shared} {env : Env} {x : PySem.Str} {v : Value} {Z : Addr → Prop} {pos : Pos} {Q : Value → Shared → Prop} (V : VV C env s Z σ) (hx : env.scope.names.lookup x = some .globalImplicit)
    (hG : C.G x = some v) (h : Q v s) (hd : (x == ("__debug__" : PySem.Str)) = false := by decide) : wpAny M A (eval (.Name x pos) env) Q E s := by
  obtain ⟨mg, mb, g, b, hv⟩ := V.base.glo
  refine Calls.Name_function_global V.kind hx ?_ hd
  rcases hv x v hG with q | ⟨q, q'⟩
  · exact Calls.loadGlobal_global (mg := mg) (by rw [V.glb]; exact g.keeps V.keep) q h
  · exact Calls.loadGlobal_builtin (mg := mg) (mb := mb) (by rw [V.glb]; exact g.keeps V.keep) q (by rw [V.bui]; exact b.keeps V.keep) q' h

theorem Ev.call {f : PySem.Str} {p pos : Pos} {fv : Value} {e : PySem.Expr} {es : List PySem.Expr} {ds : List D} {d : D} (hx : sc.names.lookup f = some .globalImplicit) (hG : C.G f = some fv) (hc : Callee C fv) (ha : Evs C sc σ (e :: es) ds) (h : Cal C fv ds d)
    (hs : (e :: es).all notStar = true := by rfl) (hd : (f == ("__debug__" : PySem.Str)) = false := by decide) : Ev C sc σ (.Call (.Name f p) (e :: es) [] pos) d := by
  intro env A s Z he hA V
  rw [List.all_cons, Bool.and_eq_true] at hs
  have hst := starEach_cons (rest := es) (env := env) hs.1
  have go : wpAny (model C.prog C.w) A (spliced (backTo pos (starEach (e :: es) env))) (fun vs s₁ => (∀ b o, C.h₀.get? b = some o → s₁.heap.get? b = some o) ∧ wpAny (model C.prog C.w) A (PySem.call fv vs) (fun v s' => Kp s s' ∧ Rep s'.heap Z v d) (fun _ _ => False) s₁) (fun _ _ => False) s :=
    ha.then he hA V fun vs s1 k1 V1 r1 => ⟨V1.keep, wpAny_mono (h A s1 Z vs hA V1.tk V1.base V1.keep V1.zin r1) (fun v s' ⟨k, q⟩ => ⟨k1.tr k, q⟩) fun _ _ f => f⟩
  refine Call_ (load_glob V (by rw [he]; exact hx) hG ?_ hd) rfl
  cases hc with
  | builtin id => exact callWith_builtin1 (wpAny_mono go (fun _ _ q => q.2) fun _ _ f => f) hst (plain_args hs.2)
  | type T => exact PyProof.Rows.callWith_type1 (wpAny_mono go (fun _ _ q => q.2) fun _ _ f => f) hst (plain_args hs.2)
  | fn ho hdat => exact callWith_def hdat (wpAny_mono go (fun _ _ q => ⟨q.1 _ _ ho, q.2⟩) fun _ _ f => f) hst

-- built-in functions
theorem Cal.len_lst {ds : List D} (h : ds.length ≤ 2 ^ 24) : Cal C (.builtin "len") [.lst ds] (.int ds.length) := by
  intro A s Z vs hA hP B hk hz r
  cases r with | cons r0 rn =>
  cases rn
  cases r0 with | @lst a ws _ hn hL hr =>
  have hlen := hr.length
  refine PyProof.Rows.len_list hL.isList (by rw [List.size_toArray]; omega) ⟨.tok s _, ?_⟩
  rw [List.size_toArray, hlen]; exact .int _ _
theorem Cal.len_scr {ns : List Int} (h : ns.length ≤ 2 ^ 24) : Cal C (.builtin "len") [.scr ns] (.int ns.length) := by
  intro A s Z vs hA hP B hk hz r
  cases r with | cons r0 rn =>
  cases rn
  cases r0 with | @scr a ws _ hn hL hr =>
  have hlen := hr.length
  refine PyProof.Rows.len_list hL (by rw [List.size_toArray]; omega) ⟨.tok s _, ?_⟩
  rw [List.size_toArray, hlen]; exact .int _ _
theorem Cal.len_str {x : PySem.Str} (h : x.length ≤ 2 ^ 24) : Cal C (.builtin "len") [.str x] (.int x.length) := by
  intro A s Z vs hA hP B hk hz r
  cases r with | cons r0 rn =>
  cases rn; cases r0
  exact P.len_str (by omega) ⟨.tok s _, .int _ _⟩

theorem ints_of_reps {h : Heap} {Z : Addr → Prop} : ∀ {vs : List Value} {ns : List Int}, Reps h Z vs (ns.map .int) → ∃ xs : Array (Int × Tok), vs.toArray = intItems xs ∧ xs.toList.map (·.1) = ns
  | vs, [], r => by cases r; exact ⟨#[], by simp [intItems], rfl⟩
  | vs, n :: ns, r => by
    cases r with | cons a b =>
    cases a with | int _ t =>
    obtain ⟨xs, e, e'⟩ := ints_of_reps b
    refine ⟨#[(n, t)] ++ xs, ?_, by simp [e']⟩
    apply Array.ext'
    have e3 := congrArg Array.toList e
    simp [intItems] at e3 ⊢
    exact e3
theorem preSum_list (xs : Array (Int × Tok)) : preSum (numAt xs) xs.size = (xs.toList.map (·.1)).sum := by
  rw [preSum_eq, List.take_of_length_le (by simp)]
theorem Cal.sum {ns : List Int} : Cal C (.builtin "sum") [.lst (ns.map .int)] (.int ns.sum) := by
  intro A s Z vs hA hP B hk hz r
  cases r with | cons r0 rn =>
  cases rn
  cases r0 with | @lst a ws _ hn hL hr =>
  obtain ⟨xs, e, e'⟩ := ints_of_reps hr
  refine sum_intListG hA.hh (xs := xs) (by rw [← e]; exact hL.isList) fun h' tk t' k => ⟨.mk' k, ?_⟩
  rw [preSum_list, e']; exact .int _ _
theorem Cal.range {n : Int} : Cal C (.type "range") [.int n] (.rng n) := by
  intro A s Z vs hA hP B hk hz r
  cases r with | cons r0 rn =>
  cases rn; cases r0
  refine call_range_1 ⟨.mk' fun _ _ e => Heap.get?_push_of_some _ e, .rng (fresh_of hz) (IsRange.new ..)⟩
theorem Cal.max2 {a b : Int} : Cal C (.builtin "max") [.int a, .int b] (.int (max a b)) := by
  intro A s Z vs hA hP B hk hz r
  cases r with | cons r0 rn =>
  cases rn with | cons r1 rn =>
  cases rn; cases r0; cases r1
  refine max_two_ints hA.hh fun h' tk k => ⟨.mk' k, ?_⟩
  by_cases hb : b > a
  · rw [if_pos hb, show max a b = b by omega]; exact .int _ _
  · rw [if_neg hb, show max a b = a by omega]; exact .int _ _
theorem Cal.min2 {a b : Int} : Cal C (.builtin "min") [.int a, .int b] (.int (min a b)) := by
  intro A s Z vs hA hP B hk hz r
  cases r with | cons r0 rn =>
  cases rn with | cons r1 rn =>
  cases rn; cases r0; cases r1
  refine min_two_ints hA.hh fun h' tk k => ⟨.mk' k, ?_⟩
  by_cases hb : b < a
  · rw [if_pos hb, show min a b = b by omega]; exact .int _ _
  · rw [if_neg hb, show min a b = a by omega]; exact .int _ _
theorem Cal.max3 {a b c : Int} : Cal C (.builtin "max") [.int a, .int b, .int c] (.int (max (max a b) c)) := by
  intro A s Z vs hA hP B hk hz r
  cases r with | cons r0 rn =>
  cases rn with | cons r1 rn =>
  cases rn with | cons r2 rn =>
  cases rn; cases r0; cases r1; cases r2
  refine max_three_ints hA.hh fun h' tk k => ⟨.mk' k, ?_⟩
  by_cases hb : b > a
  · rw [if_pos hb]
    by_cases hc : c > b
    · rw [if_pos hc, show max (max a b) c = c by omega]; exact .int _ _
    · rw [if_neg hc, show max (max a b) c = b by omega]; exact .int _ _
  · rw [if_neg hb]
    by_cases hc : c > a
    · rw [if_pos hc, show max (max a b) c = c by omega]; exact .int _ _
    · rw [if_neg hc, show max (max a b) c = a by omega]; exact .int _ _

/-- the best of three, as the loop takes it -/
theorem argBest3 (f : Nat → Nat → Bool) : argBest f 2 = if f 1 0 then (if f 2 1 then 2 else 1) else (if f 2 0 then 2 else 0) := by
  have e1 : argBest f 1 = if f 1 0 then 1 else 0 := by simp [argBest]
  have e2 : argBest f 2 = if f 2 (argBest f 1) then 2 else argBest f 1 := by simp [argBest]
  rw [e2, e1]
  by_cases h : f 1 0 = true
  · rw [if_pos h, if_pos h]
  · rw [if_neg h, if_neg h]

theorem Cal.maxL3 {a b c : Int} : Cal C (.builtin "max") [.lst [.int a, .int b, .int c]] (.int (max (max a b) c)) := by
  intro A s Z vs hA hP B hk hz r
  cases r with | cons r0 rn =>
  cases rn
  cases r0 with | @lst l ws _ hn hL hr =>
  cases hr with | cons r0 rn =>
  cases rn with | cons r1 rn =>
  cases rn with | cons r2 rn =>
  cases rn
  cases r0 with | int _ t0 =>
  cases r1 with | int _ t1 =>
  cases r2 with | int _ t2 =>
  refine max_intList hA.hh (xs := #[(a, t0), (b, t1), (c, t2)]) (by simpa [intItems] using hL.isList) (by simp) fun v h' tk hv k => ⟨.mk' k, ?_⟩
  rw [show (#[(a, t0), (b, t1), (c, t2)] : Array (Int × Tok)).size - 1 = 2 from rfl, argBest3] at hv
  have n0 : numAt #[(a, t0), (b, t1), (c, t2)] 0 = a := rfl
  have n1 : numAt #[(a, t0), (b, t1), (c, t2)] 1 = b := rfl
  have n2 : numAt #[(a, t0), (b, t1), (c, t2)] 2 = c := rfl
  rw [n0, n1, n2] at hv
  by_cases hb : b > a
  · rw [decide_eq_true hb, if_pos rfl] at hv
    by_cases hc : c > b
    · rw [decide_eq_true hc, if_pos rfl] at hv
      have : v = .int c t2 := by simpa [intItems] using hv.symm
      subst this; rw [show max (max a b) c = c by omega]; exact .int _ _
    · rw [decide_eq_false hc, if_neg Bool.false_ne_true] at hv
      have : v = .int b t1 := by simpa [intItems] using hv.symm
      subst this; rw [show max (max a b) c = b by omega]; exact .int _ _
  · rw [decide_eq_false hb, if_neg Bool.false_ne_true] at hv
    by_cases hc : c > a
    · rw [decide_eq_true hc, if_pos rfl] at hv
      have : v = .int c t2 := by simpa [intItems] using hv.symm
      subst this; rw [show max (max a b) c = c by omega]; exact .int _ _
    · rw [decide_eq_false hc, if_neg Bool.false_ne_true] at hv
      have : v = .int a t0 := by simpa [intItems] using hv.symm
      subst this; rw [show max (max a b) c = a by omega]; exact .int _ _
theorem Cal.minL3 {a b c : Int} : Cal C (.builtin "min") [.lst [.int a, .int b, .int c]] (.int (min (min a b) c)) := by
  intro A s Z vs hA hP B hk hz r
  cases r with | cons r0 rn =>
  cases rn
  cases r0 with | @lst l ws _ hn hL hr =>
  cases hr with | cons r0 rn =>
  cases rn with | cons r1 rn =>
  cases rn with | cons r2 rn =>
  cases rn
  cases r0 with | int _ t0 =>
  cases r1 with | int _ t1 =>
  cases r2 with | int _ t2 =>
  refine min_intList hA.hh (xs := #[(a, t0), (b, t1), (c, t2)]) (by simpa [intItems] using hL.isList) (by simp) fun v h' tk hv k => ⟨.mk' k, ?_⟩
  rw [show (#[(a, t0), (b, t1), (c, t2)] : Array (Int × Tok)).size - 1 = 2 from rfl, argBest3] at hv
  have n0 : numAt #[(a, t0), (b, t1), (c, t2)] 0 = a := rfl
  have n1 : numAt #[(a, t0), (b, t1), (c, t2)] 1 = b := rfl
  have n2 : numAt #[(a, t0), (b, t1), (c, t2)] 2 = c := rfl
  rw [n0, n1, n2] at hv
  by_cases hb : b < a
  · rw [decide_eq_true hb, if_pos rfl] at hv
    by_cases hc : c < b
    · rw [decide_eq_true hc, if_pos rfl] at hv
      have : v = .int c t2 := by simpa [intItems] using hv.symm
      subst this; rw [show min (min a b) c = c by omega]; exact .int _ _
    · rw [decide_eq_false hc, if_neg Bool.false_ne_true] at hv
      have : v = .int b t1 := by simpa [intItems] using hv.symm
      subst this; rw [show min (min a b) c = b by omega]; exact .int _ _
  · rw [decide_eq_false hb, if_neg Bool.false_ne_true] at hv
    by_cases hc : c < a
    · rw [decide_eq_true hc, if_pos rfl] at hv
      have : v = .int c t2 := by simpa [intItems] using hv.symm
      subst this; rw [show min (min a b) c = c by omega]; exact .int _ _
    · rw [decide_eq_false hc, if_neg Bool.false_ne_true] at hv
      have : v = .int a t0 := by simpa [intItems] using hv.symm
      subst this; rw [show min (min a b) c = a by omega]; exact .int _ _

-- three floats
noncomputable def fAt (a b c : UInt64) : Nat → UInt64
  | 0 => a
  | 1 => b
  | _ => c
noncomputable def gtF (x y : UInt64) : Bool := Float64.cmp x y == some Ordering.gt
noncomputable def ltF (x y : UInt64) : Bool := Float64.cmp x y == some Ordering.lt
noncomputable def best3 (f : UInt64 → UInt64 → Bool) (a b c : UInt64) : UInt64 := if f b a then (if f c b then c else b) else (if f c a then c else a)

theorem three_flt {prog : Program} {w : World} {A : Around} {s : Shared} {a b c : UInt64} {t u x : Tok} {op : CmpOp} {f : UInt64 → UInt64 → Bool} {Q : Value → Shared → Prop} {E : Value → Shared → Prop} (ht : 0 < t) (hu : 0 < u) (hxx : 0 < x)
    (hh : A.handled = none) (hf : ∀ (p q : UInt64) (t u : Tok) (s : Shared) (Q : Value → Shared → Prop) (E : Value → Shared → Prop), Q (.bool (f p q)) s → wpAny (model prog w) A.in1 (compareOp op (.float p t) (.float q u)) Q E s)
    (hop : ∀ p q, compareOp op p q = richCompare op p q)
    (h : ∀ t h' tk, 0 < t → (∀ d o, s.heap.get? d = some o → h'.get? d = some o) → Q (.float (best3 f a b c) t) { s with heap := h', toks := tk }) :
    wpAny (model prog w) A.in1 (pyIter (.ref s.heap.objs.size)) (fun it s₂ => ∃ I fp wr n P St bt, it = .ref I ∧ Walks prog w A.in1 I fp wr n P St ∧ St 0 s₂.heap ∧ (∀ b ∈ fp, b < s₂.heap.objs.size) ∧ 0 < n ∧ CmpOf prog w A.in1 op P bt ∧
      ∀ v h' tk, P (argBest bt (n - 1)) v → (∀ b o, b ∉ wr → s₂.heap.get? b = some o → h'.get? b = some o) → Q v { s₂ with heap := h', toks := tk }) E
      { s with heap := s.heap.push { cls := .type "tuple", data := .seq #[.float a t, .float b u, .float c x] } } := by
  have hT : (s.heap.push { cls := .type "tuple", data := .seq #[.float a t, .float b u, .float c x] }).IsTuple s.heap.objs.size #[.float a t, .float b u, .float c x] := ⟨_, Heap.get?_push_size _ rfl, rfl, 0, rfl⟩
  refine wpAny_pyIter_tuple hT ?_
  have hsz : (s.heap.push { cls := .type "tuple", data := .seq #[.float a t, .float b u, .float c x] }).objs.size = s.heap.objs.size + 1 := Heap.size_push ..
  have hval : ∀ (i : Nat) (v : Value), (#[Value.float a t, .float b u, .float c x] : Array Value)[i]? = some v → ∃ t', v = .float (fAt a b c i) t' ∧ 0 < t' := by
    intro i v hv
    match i, hv with
    | 0, hv => exact ⟨t, by simpa [fAt] using hv.symm, ht⟩
    | 1, hv => exact ⟨u, by simpa [fAt] using hv.symm, hu⟩
    | 2, hv => exact ⟨x, by simpa [fAt] using hv.symm, hxx⟩
    | (n + 3), hv => simp at hv
  refine ⟨_, [_, s.heap.objs.size], [_], _, _, _, fun i j => f (fAt a b c i) (fAt a b c j), rfl, Walks.tuple (A := A.in1) hh _ s.heap.objs.size (by rw [hsz]; exact Nat.ne_of_lt (Nat.lt_succ_self _)) #[.float a t, .float b u, .float c x],
    ⟨⟨_, Heap.get?_push_size _ rfl, rfl, rfl⟩, hT.push _⟩, fun d hd => ?_, by simp, fun i j vi vj s' Q' E' hi hj hq => ?_, fun v h' tk hP hk => ?_⟩
  · show d < ((s.heap.push _).push _).objs.size
    rw [Heap.size_push, hsz]
    rcases List.mem_cons.mp hd with rfl | hd
    · rw [hsz]; exact Nat.lt_succ_self _
    · rcases List.mem_cons.mp hd with rfl | hd
      · exact Nat.lt_succ_of_lt (Nat.lt_succ_self _)
      · cases hd
  · obtain ⟨t1, rfl, _⟩ := hval i vi hi
    obtain ⟨t2, rfl, _⟩ := hval j vj hj
    rw [← hop]
    exact hf _ _ _ _ _ _ _ hq
  · have hold : ∀ d o, s.heap.get? d = some o → h'.get? d = some o := fun d o e => by
      refine hk d o (fun hm => ?_) (Heap.get?_push_of_some _ (Heap.get?_push_of_some _ e))
      rcases List.mem_cons.mp hm with e1 | hm
      · have := Heap.lt_size e; rw [e1, hsz] at this; exact Nat.lt_irrefl _ (Nat.lt_of_succ_lt this)
      · cases hm
    have hP' : (#[Value.float a t, .float b u, .float c x] : Array Value)[argBest (fun i j => f (fAt a b c i) (fAt a b c j)) 2]? = some v := hP
    obtain ⟨t', rfl, ht'⟩ := hval _ _ hP'
    have e : fAt a b c (argBest (fun i j => f (fAt a b c i) (fAt a b c j)) 2) = best3 f a b c := by
      rw [argBest3]
      simp only [fAt, best3]
      cases f b a <;> cases f c b <;> cases f c a <;> rfl
    rw [e]
    exact h t' h' tk ht' hold
theorem Cal.maxF3 {a b c : UInt64} : Cal C (.builtin "max") [.flt a, .flt b, .flt c] (.flt (best3 gtF a b c)) := by
  intro A s Z vs hA hP B hk hz r
  cases r with | cons r0 rn =>
  cases rn with | cons r1 rn =>
  cases rn with | cons r2 rn =>
  cases rn
  cases r0 with | flt _ _ h0 =>
  cases r1 with | flt _ _ h1 =>
  cases r2 with | flt _ _ h2 =>
  exact call_max_three (three_flt h0 h1 h2 (s := s) (f := gtF) (Q := fun v s' => Kp s s' ∧ Rep s'.heap Z v (.flt (best3 gtF a b c))) hA.hh (fun _ _ _ _ _ _ _ hq => AutoFloatOps.gt_0 hq) (fun _ _ => rfl) fun t h' tk ht k => ⟨.mk' k, .flt _ _ ht⟩)
theorem Cal.minF3 {a b c : UInt64} : Cal C (.builtin "min") [.flt a, .flt b, .flt c] (.flt (best3 ltF a b c)) := by
  intro A s Z vs hA hP B hk hz r
  cases r with | cons r0 rn =>
  cases rn with | cons r1 rn =>
  cases rn with | cons r2 rn =>
  cases rn
  cases r0 with | flt _ _ h0 =>
  cases r1 with | flt _ _ h1 =>
  cases r2 with | flt _ _ h2 =>
  exact call_min_three (three_flt h0 h1 h2 (s := s) (f := ltF) (Q := fun v s' => Kp s s' ∧ Rep s'.heap Z v (.flt (best3 ltF a b c))) hA.hh (fun _ _ _ _ _ _ _ hq => AutoFloatOps.lt_0 hq) (fun _ _ => rfl) fun t h' tk ht k => ⟨.mk' k, .flt _ _ ht⟩)
theorem Cal.int_flt {x : UInt64} {sg : Bool} {m : Nat} {e : Int} (hd : Float64.decode x = Float64.Num.fin sg m e) : Cal C (.type "int") [.flt x] (.int (Float64.truncOf sg m e)) := by
  intro A s Z vs hA hP B hk hz r
  cases r with | cons r0 rn =>
  cases rn; cases r0
  exact call_int_float hd ⟨.tok s _, .int _ _⟩
theorem Cal.hex {i : Int} (h : (baseText "0x" 16 i).length ≤ sizeLine) : Cal C (.builtin "hex") [.int i] (.str (baseText "0x" 16 i)) := by
  intro A s Z vs hA hP B hk hz r
  cases r with | cons r0 rn =>
  cases rn; cases r0
  exact P.hex_of_int ⟨.tok s _, .str _ _⟩ h
end
end Mine
namespace Mine

/-- what data gives when it is iterated over -/
inductive Src : D → List D → Prop
  | lst (ds : List D) : Src (.lst ds) ds
  | tup (ds : List D) : Src (.tup ds) ds
  | rng (n : Nat) : n ≤ 2 ^ 24 → Src (.rng n) ((List.range n).map fun (i : Nat) => .int (i : Int))

section
variable {C : Cx} {sc : Scope} {σ : St}

/-- an iterator over the items its, made from the heap h -/
structure Iter (prog : Program) (w : World) (A : Around) (h : Heap) (Z : Addr → Prop) (its : List D) (I : Addr) (fp : List Addr) (P : Nat → Value → Prop) (S : Nat → Heap → Prop) (h' : Heap) : Prop where
  walks : Walks prog w A I fp [I] its.length P S
  start : S 0 h'
  fps : ∀ b ∈ fp, b < h'.objs.size
  fpz : ∀ b ∈ fp, b ≠ I → ¬ Z b
  fpe : ∀ b ∈ fp, b ≠ I → ∃ o, h.get? b = some o
  new : h.get? I = none
  here : ∃ o, h'.get? I = some o
  alive : ∀ i h, S i h → ∃ o, h.get? I = some o ∧ (o.cls = .type "list_iterator" ∨ o.cls = .type "tuple_iterator" ∨ o.cls = .type "range_iterator")
  item : ∀ i v, P i v → ∃ d, its[i]? = some d ∧ Rep h Z v d
  len : its.length ≤ sizeLine

theorem iter_src {A : Around} {s : Shared} {Z : Addr → Prop} {v : Value} {d : D} {its : List D} {Q : Value → Shared → Prop} {E : Value → Shared → Prop} (hh : A.handled = none) (r : Rep s.heap Z v d) (hs : Src d its) (hlen : its.length ≤ 2 ^ 24)
    (h : ∀ I fp P S h' tk, (∀ b o, s.heap.get? b = some o → h'.get? b = some o) → Iter C.prog C.w A s.heap Z its I fp P S h' → Q (.ref I) { s with heap := h', toks := tk }) :
    wpAny (model C.prog C.w) A (pyIter v) Q E s := by
  cases hs with
  | lst ds =>
    cases r with | @lst a vs _ hn hL hr =>
    have hlt : a < s.heap.objs.size := let ⟨_, e⟩ := hL; Heap.lt_size e
    refine wpAny_pyIter_list hL.isList ?_
    have it : Iter C.prog C.w A s.heap Z its s.heap.objs.size [s.heap.objs.size, a] (fun i v => vs.toArray[i]? = some v) (fun i h => h.IsListIter s.heap.objs.size a i ∧ h.IsList a vs.toArray)
        (s.heap.push { cls := .type "list_iterator", data := .fields #[.ref a, .int 0 0] }) :=
      { walks := by rw [← hr.length, ← List.size_toArray]; exact Walks.list hh _ a (Nat.ne_of_lt hlt) vs.toArray
        start := ⟨⟨_, Heap.get?_push_size _ rfl, rfl, rfl⟩, hL.isList.push _⟩
        fps := fun b hb => by
          rw [Heap.size_push]; rcases List.mem_cons.mp hb with q | q
          · rw [q]; exact Nat.lt_succ_self _
          · rw [List.mem_singleton.mp q]; exact Nat.lt_succ_of_lt hlt
        fpz := fun b hb hne => by
          rcases List.mem_cons.mp hb with q | q
          · exact absurd q hne
          · rw [List.mem_singleton.mp q]; exact hn
        fpe := fun b hb hne => by
          rcases List.mem_cons.mp hb with q | q
          · exact absurd q hne
          · rw [List.mem_singleton.mp q]; exact islist_some hL.isList
        new := get_size _
        here := ⟨_, Heap.get?_push_size _ rfl⟩
        alive := fun i h q => let ⟨o, e, c, _⟩ := q.1; ⟨o, e, .inl c⟩
        item := fun i v hv => hr.at i v (by simpa using hv)
        len := hlen }
    exact h _ _ _ _ _ s.toks (fun _ _ e => Heap.get?_push_of_some _ e) it
  | tup ds =>
    cases r with | @tup a vs _ hn hL hr =>
    have hlt : a < s.heap.objs.size := let ⟨_, e, _⟩ := hL; Heap.lt_size e
    refine wpAny_pyIter_tuple hL ?_
    have it : Iter C.prog C.w A s.heap Z its s.heap.objs.size [s.heap.objs.size, a] (fun i v => vs.toArray[i]? = some v) (fun i h => h.IsTupleIter s.heap.objs.size a i ∧ h.IsTuple a vs.toArray)
        (s.heap.push { cls := .type "tuple_iterator", data := .fields #[.ref a, .int 0 0] }) :=
      { walks := by rw [← hr.length, ← List.size_toArray]; exact Walks.tuple hh _ a (Nat.ne_of_lt hlt) vs.toArray
        start := ⟨⟨_, Heap.get?_push_size _ rfl, rfl, rfl⟩, Heap.IsTuple.push hL _⟩
        fps := fun b hb => by
          rw [Heap.size_push]; rcases List.mem_cons.mp hb with q | q
          · rw [q]; exact Nat.lt_succ_self _
          · rw [List.mem_singleton.mp q]; exact Nat.lt_succ_of_lt hlt
        fpz := fun b hb hne => by
          rcases List.mem_cons.mp hb with q | q
          · exact absurd q hne
          · rw [List.mem_singleton.mp q]; exact hn
        fpe := fun b hb hne => by
          rcases List.mem_cons.mp hb with q | q
          · exact absurd q hne
          · rw [List.mem_singleton.mp q]; exact istup_some hL
        new := get_size _
        here := ⟨_, Heap.get?_push_size _ rfl⟩
        alive := fun i h q => let ⟨o, e, c, _⟩ := q.1; ⟨o, e, .inr (.inl c)⟩
        item := fun i v hv => hr.at i v (by simpa using hv)
        len := hlen }
    exact h _ _ _ _ _ s.toks (fun _ _ e => Heap.get?_push_of_some _ e) it
  | rng n hn24 =>
    cases r with | @rng a _ t u v hn hR =>
    have hl : ((List.range n).map fun (i : Nat) => D.int (i : Int)).length = n := by simp
    have hsm : Builtin.Range.small 0 (n : Int) 1 = true := small_one (by omega) (by omega) (by omega) (by omega)
    have hsz : Builtin.Range.rangeSize 0 (n : Int) 1 = (n : Int) := by rw [rangeSize_one]; split <;> omega
    refine wpAny_pyIter_range hR hsm ?_
    have it : Iter C.prog C.w A s.heap Z ((List.range n).map fun (i : Nat) => D.int (i : Int)) s.heap.objs.size [s.heap.objs.size] (fun i v => i < n ∧ ∃ t, v = .int (0 + (i : Int)) t) (fun i h => IsRangeIter h s.heap.objs.size (0 + (i : Nat) * 1) ((n : Int) - (i : Nat)) 1)
        (s.heap.push { cls := .type "range_iterator", data := .fields #[rawInt 0, rawInt (Builtin.Range.rangeSize 0 (n : Int) 1), rawInt 1] }) :=
      { walks := by rw [hl]; exact (LCg.range_walks hh 0 n).bound
        start := by
          show IsRangeIter _ _ _ _ _
          rw [hsz]; simpa using Heap.get?_push_size _ rfl
        fps := fun b hb => by rw [Heap.size_push, List.mem_singleton.mp hb]; exact Nat.lt_succ_self _
        fpz := fun b hb hne => absurd (List.mem_singleton.mp hb) hne
        fpe := fun b hb hne => absurd (List.mem_singleton.mp hb) hne
        new := get_size _
        here := ⟨_, Heap.get?_push_size _ rfl⟩
        alive := fun i h q => ⟨_, q, .inr (.inr rfl)⟩
        item := fun i v hv => by
          obtain ⟨hi, t, rfl⟩ := hv
          refine ⟨.int (i : Int), by simp [hi], ?_⟩
          rw [Int.zero_add]; exact .int _ _
        len := hlen }
    exact h _ _ _ _ _ s.toks (fun _ _ e => Heap.get?_push_of_some _ e) it
end
end Mine
namespace Mine

-- closures
theorem closureFor_go {env : Env} : ∀ (names : List (PySem.Str × NameKind)) (acc : List (PySem.Str × Addr)),
    (∀ p ∈ names, p.2 = .free → ∃ c, env.cells.lookup p.1 = some c) →
    ∃ cl, (forIn names acc fun (x : PySem.Str × NameKind) (r : List (PySem.Str × Addr)) => if x.2 == .free then do let a ← cellOf env x.1; pure (ForInStep.yield ((x.1, a) :: r)) else pure (ForInStep.yield r) : Sem (List (PySem.Str × Addr))) = pure cl ∧
      (∀ x, (x, NameKind.free) ∈ names → cl.lookup x = env.cells.lookup x) ∧ (∀ x, (x, NameKind.free) ∉ names → cl.lookup x = acc.lookup x)
  | [], acc, _ => ⟨acc, by rw [List.forIn_nil], fun x hx => (nomatch hx), fun x _ => rfl⟩
  | (n, k) :: r, acc, h => by
    rw [List.forIn_cons]
    by_cases hk : k = .free
    · subst hk
      obtain ⟨c, hc⟩ := h (n, .free) List.mem_cons_self rfl
      obtain ⟨cl, e, h1, h2⟩ := closureFor_go r ((n, c) :: acc) fun p hp => h p (List.mem_cons_of_mem _ hp)
      refine ⟨cl, ?_, fun x hx => ?_, fun x hx => ?_⟩
      · have hco : cellOf env n = pure c := by unfold cellOf; rw [hc]
        simp only [beq_self_eq_true, if_true, hco, pure_bind]
        exact e
      · by_cases hm : (x, NameKind.free) ∈ r
        · exact h1 x hm
        · rcases List.mem_cons.mp hx with q | q
          · cases q; rw [h2 _ hm, List.lookup_cons, beq_self_eq_true, hc]
          · exact absurd q hm
      · have hx' : (x, NameKind.free) ∉ r := fun q => hx (List.mem_cons_of_mem _ q)
        have hne : (x == n) = false := by
          rw [beq_eq_false_iff_ne]; intro q; exact hx (by rw [q]; exact List.mem_cons_self)
        rw [h2 x hx', List.lookup_cons, hne]
    · obtain ⟨cl, e, h1, h2⟩ := closureFor_go r acc fun p hp => h p (List.mem_cons_of_mem _ hp)
      refine ⟨cl, ?_, fun x hx => ?_, fun x hx => ?_⟩
      · have hkb : (k == NameKind.free) = false := by simpa using hk
        simp only [hkb, Bool.false_eq_true, if_false, pure_bind]
        exact e
      · rcases List.mem_cons.mp hx with q | q
        · cases q; exact absurd rfl hk
        · exact h1 x q
      · exact h2 x fun q => hx (List.mem_cons_of_mem _ q)
theorem closureFor_is {env : Env} {scope : Scope} (h : ∀ p ∈ scope.names, p.2 = .free → ∃ c, env.cells.lookup p.1 = some c) :
    ∃ cl, closureFor scope env = pure cl ∧ ∀ x, (x, NameKind.free) ∈ scope.names → cl.lookup x = env.cells.lookup x := by
  obtain ⟨cl, e, h1, _⟩ := closureFor_go scope.names [] h
  refine ⟨cl, ?_, h1⟩
  rw [← e]
  unfold closureFor
  simp only [bind_pure]

-- the cells that a block makes, over those that it gets
theorem cellsFrom_other : ∀ (names : List (PySem.Str × NameKind)) (n : Nat) (acc : List (PySem.Str × Addr)) (x : PySem.Str), (x, NameKind.cell) ∉ names → (cellsFrom n names acc).lookup x = acc.lookup x
  | [], _, _, _, _ => rfl
  | (y, k) :: r, n, acc, x, h => by
    unfold cellsFrom
    have hr : (x, NameKind.cell) ∉ r := fun q => h (List.mem_cons_of_mem _ q)
    by_cases hk : (k == NameKind.cell) = true
    · rw [if_pos hk, cellsFrom_other r _ _ x hr, List.lookup_cons]
      have hne : (x == y) = false := by
        rw [beq_eq_false_iff_ne]; intro q
        have : k = .cell := by simpa using hk
        exact h (by rw [q, this]; exact List.mem_cons_self)
      rw [hne]
    · rw [if_neg hk]; exact cellsFrom_other r _ _ x hr
theorem cellsFrom_own : ∀ (names : List (PySem.Str × NameKind)) (n : Nat) (acc : List (PySem.Str × Addr)) (x : PySem.Str), (x, NameKind.cell) ∈ names → ∃ c, (cellsFrom n names acc).lookup x = some c ∧ n ≤ c
  | (y, k) :: r, n, acc, x, h => by
    unfold cellsFrom
    by_cases hr : (x, NameKind.cell) ∈ r
    · by_cases hk : (k == NameKind.cell) = true
      · rw [if_pos hk]; obtain ⟨c, e, l⟩ := cellsFrom_own r (n + 1) ((y, n) :: acc) x hr; exact ⟨c, e, by omega⟩
      · rw [if_neg hk]; exact cellsFrom_own r n acc x hr
    · rcases List.mem_cons.mp h with q | q
      · cases q
        rw [if_pos (by rfl), cellsFrom_other r _ _ y hr]
        exact ⟨n, by rw [List.lookup_cons, beq_self_eq_true], Nat.le_refl _⟩
      · exact absurd q hr

theorem pushCells_cell : ∀ (names : List (PySem.Str × NameKind)) (h : Heap) (c : Addr), h.objs.size ≤ c → c < (pushCells h names).objs.size → (pushCells h names).IsCell c none
  | [], h, c, h1, h2 => by unfold pushCells at h2; exact absurd h2 (Nat.not_lt.mpr h1)
  | (_, k) :: r, h, c, h1, h2 => by
    unfold pushCells at h2 ⊢
    by_cases hk : (k == NameKind.cell) = true
    · rw [if_pos hk] at h2 ⊢
      by_cases he : c = h.objs.size
      · subst he
        exact ⟨_, pushCells_keeps r _ _ _ (Heap.get?_push_size _ rfl), rfl⟩
      · exact pushCells_cell r _ c (by rw [Heap.size_push]; exact Nat.lt_of_le_of_ne h1 (Ne.symm he)) h2
    · rw [if_neg hk] at h2 ⊢; exact pushCells_cell r h c h1 h2
theorem pushCells_size_le : ∀ (names : List (PySem.Str × NameKind)) (h : Heap), h.objs.size ≤ (pushCells h names).objs.size
  | [], h => Nat.le_refl _
  | (_, k) :: r, h => by
    unfold pushCells
    by_cases hk : (k == NameKind.cell) = true
    · rw [if_pos hk]; have := pushCells_size_le r (h.push { cls := .type "cell", data := .cell none }); rw [Heap.size_push] at this; exact Nat.le_trans (Nat.le_succ _) this
    · rw [if_neg hk]; exact pushCells_size_le r h
theorem cellsFrom_lt : ∀ (names : List (PySem.Str × NameKind)) (h : Heap) (acc : List (PySem.Str × Addr)) (x : PySem.Str) (c : Addr), (x, NameKind.cell) ∈ names → (cellsFrom h.objs.size names acc).lookup x = some c → c < (pushCells h names).objs.size
  | [], _, _, _, _, hm, _ => absurd hm List.not_mem_nil
  | (y, k) :: r, h, acc, x, c, hm, e => by
    unfold cellsFrom at e
    unfold pushCells
    by_cases hk : (k == NameKind.cell) = true
    · rw [if_pos hk] at e ⊢
      have hsz : (h.push { cls := .type "cell", data := .cell none }).objs.size = h.objs.size + 1 := Heap.size_push ..
      by_cases hr : (x, NameKind.cell) ∈ r
      · exact cellsFrom_lt r (h.push { cls := .type "cell", data := .cell none }) ((y, h.objs.size) :: acc) x c hr (by rw [hsz]; exact e)
      · rcases List.mem_cons.mp hm with q | q
        · cases q
          rw [cellsFrom_other r _ _ y hr, List.lookup_cons, beq_self_eq_true] at e
          cases e
          have := pushCells_size_le r (h.push { cls := .type "cell", data := .cell none })
          rw [hsz] at this; exact this
        · exact absurd q hr
    · rw [if_neg hk] at e ⊢
      refine cellsFrom_lt r h acc x c ?_ e
      rcases List.mem_cons.mp hm with q | q
      · cases q; exact absurd rfl hk
      · exact q

noncomputable def cEnv (scope : Scope) (cl : List (PySem.Str × Addr)) (L : Addr) (env : Env) : Env :=
  { scope := scope, locals := L, globals := env.globals, cells := cellsFrom (L + 1) scope.names cl, qual := env.qual, func := none, code := env.code, frame := env.frame, builtins := env.builtins }

/-- the frame of a comprehension -/
theorem newEnv_comp {M : Model} {A : Around} {E : Value → Shared → Prop} {s : Shared} {scope : Scope} {env : Env} {cl : List (PySem.Str × Addr)} {Q : Env → Shared → Prop}
    (h : ∀ h₁ : Heap, h₁.Ns s.heap.objs.size (fun _ => none) → (∀ x c, (x, NameKind.cell) ∈ scope.names → (cellsFrom (s.heap.objs.size + 1) scope.names cl).lookup x = some c → h₁.IsCell c none) → (∀ b o, s.heap.get? b = some o → h₁.get? b = some o) →
      Q (cEnv scope cl s.heap.objs.size env) { s with heap := h₁ }) :
    wpAny M A (newFunctionEnv scope env.globals cl [] env.qual none .none (some env)) Q E s := by
  simp only [newFunctionEnv, Option.isSome_some, if_true]
  refine wpAny_bind (wpAny_alloc ?_)
  refine wpAny_bind (wpAny_layCells _ (fun name kind cells => by cases hkc : kind == NameKind.cell <;> simp [hkc]) _ _ _ _ ?_)
  have hsz : (s.heap.push { cls := .type "dict", data := .dict #[] }).objs.size = s.heap.objs.size + 1 := Heap.size_push ..
  have hQ := h (pushCells (s.heap.push { cls := .type "dict", data := .dict #[] }) scope.names) ((Heap.Ns.new s.heap (.type "dict")).keeps (pushCells_keeps _ _)) (fun x c hx hc => ?_) (fun b o e => pushCells_keeps _ _ b o (Heap.get?_push_of_some _ e))
  · simp only [List.forIn_nil]
    rw [show ({ s with heap := s.heap.push { cls := .type "dict", data := .dict #[] } } : Shared).heap.objs.size = s.heap.objs.size + 1 from hsz]
    exact wpAny_bind (wpAny_pure (wpAny_pure hQ))
  · refine pushCells_cell _ _ _ ?_ (cellsFrom_lt scope.names (s.heap.push { cls := .type "dict", data := .dict #[] }) cl x c hx (by rw [hsz]; exact hc))
    obtain ⟨c', e', l⟩ := cellsFrom_own scope.names (s.heap.objs.size + 1) cl x hx
    rw [hc] at e'; cases e'; rw [hsz]; exact l
end Mine
namespace Mine

noncomputable def relab (scope sc : Scope) : Scope :=
  { scope with names := scope.names.map fun (n, k) => if (k == .free && sc.kind == .function && sc.names.lookup n == some .cell) then (n, .cell) else (n, k) }

/-- what a comprehension's table must be for these rules; x is its variable -/
noncomputable def compOk (sc scope : Scope) (x : PySem.Str) : Bool :=
  scope.kind == .function &&
  scope.names.all (fun q => q.2 != .local || scope.names.lookup q.1 == some .local) &&
  scope.names.all (fun q => q.2 != .free || (!scope.names.contains (q.1, .cell) && (sc.names.lookup q.1 == some .cell || sc.names.lookup q.1 == some .free) && ((relab scope sc).names.lookup q.1 == some .cell || (relab scope sc).names.lookup q.1 == some .free))) &&
  ((relab scope sc).names.lookup x == some .local || ((relab scope sc).names.lookup x == some .cell && scope.names.contains (x, .cell)))

/-- the variables that the comprehension's block sees: its own, and those of the closure -/
noncomputable def inner (scope : Scope) (σ : St) (x : PySem.Str) (d : D) : St := upd (fun y => if scope.names.lookup y = some .free then σ y else none) x d

noncomputable def cEnvR (scope sc : Scope) (cl : List (PySem.Str × Addr)) (L : Addr) (env : Env) : Env :=
  { scope := relab scope sc, locals := L, globals := env.globals, cells := cellsFrom (L + 1) scope.names cl, qual := env.qual, func := none, code := env.code, frame := env.frame, builtins := env.builtins }

noncomputable def Tsts (C : Cx) (sc : Scope) (σ : St) : List PySem.Expr → Bool → Prop
  | [], b => b = true
  | [c], b => Tst C sc σ c b
  | _, _ => False

section
variable {C : Cx} {sc : Scope} {σ : St}

theorem compOk_kind {sc scope : Scope} {x : PySem.Str} (h : compOk sc scope x = true) : scope.kind = .function := by
  simp only [compOk, Bool.and_eq_true] at h
  simpa using h.1.1.1
theorem compOk_locals {sc scope : Scope} {x : PySem.Str} (h : compOk sc scope x = true) : ∀ q ∈ scope.names, q.2 = .local → scope.names.lookup q.1 = some .local := by
  simp only [compOk, Bool.and_eq_true] at h
  intro q hq hl
  have := List.all_eq_true.mp h.1.1.2 q hq
  simpa [hl] using this
theorem compOk_free {sc scope : Scope} {x : PySem.Str} (h : compOk sc scope x = true) : ∀ q ∈ scope.names, q.2 = .free → (q.1, NameKind.cell) ∉ scope.names ∧
    (sc.names.lookup q.1 = some .cell ∨ sc.names.lookup q.1 = some .free) ∧ ((relab scope sc).names.lookup q.1 = some .cell ∨ (relab scope sc).names.lookup q.1 = some .free) := by
  simp only [compOk, Bool.and_eq_true] at h
  intro q hq hl
  have := List.all_eq_true.mp h.1.2 q hq
  simp [hl] at this
  exact ⟨this.1.1, this.1.2, this.2⟩
theorem compOk_var {sc scope : Scope} {x : PySem.Str} (h : compOk sc scope x = true) : (relab scope sc).names.lookup x = some .local ∨ ((relab scope sc).names.lookup x = some .cell ∧ (x, NameKind.cell) ∈ scope.names) := by
  simp only [compOk, Bool.and_eq_true] at h
  simpa using h.2

theorem mem_of_lookup' {α : Type} {l : List (PySem.Str × α)} {n : PySem.Str} {c : α} (h : l.lookup n = some c) : (n, c) ∈ l := mem_of_lookup h

theorem view_inner {env : Env} {h h₂ : Heap} {Z Z' : Addr → Prop} {scope : Scope} {x : PySem.Str} {cl : List (PySem.Str × Addr)} {L : Addr} {v : Value} {d : D} (V : View C env h Z σ) (he : env.scope = sc) (hok : compOk sc scope x = true)
    (hcl : ∀ y, (y, NameKind.free) ∈ scope.names → cl.lookup y = env.cells.lookup y) (hk : ∀ b o, h.get? b = some o → h₂.get? b = some o) (hz : ∀ b, Z' b → Z b ∨ h.get? b = none) (hin : ∀ b, Z' b → ∃ o, h₂.get? b = some o)
    (hx : Sees (cEnvR scope sc cl L env) h₂ x v) (hr : Rep h₂ Z' v d) : View C (cEnvR scope sc cl L env) h₂ Z' (inner scope σ x d) where
  base := V.base
  keep := fun b o e => hk b o (V.keep b o e)
  kind := (compOk_kind hok : scope.kind = .function)
  glb := V.glb
  bui := V.bui
  zin := hin
  var := fun y dy hy => by
    unfold inner upd at hy
    by_cases hyx : y = x
    · rw [if_pos hyx] at hy; cases hy; rw [hyx]; exact ⟨v, hx, .of hr⟩
    · rw [if_neg hyx] at hy
      dsimp only at hy
      by_cases hf : scope.names.lookup y = some .free
      · rw [if_pos hf] at hy
        obtain ⟨u, hs, q⟩ := V.var y dy hy
        have hm := mem_of_lookup' hf
        obtain ⟨f1, f2, f3⟩ := compOk_free hok (y, .free) hm rfl
        refine ⟨u, .inr ⟨f3, ?_⟩, q.move (fun b o _ e => hk b o e) hz fun _ _ _ _ o e => hk _ o e⟩
        rcases hs with ⟨hl, _⟩ | ⟨_, c, hc, hv⟩
        · have hl' : sc.names.lookup y = some .local := by rw [← he]; exact hl
          rw [hl'] at f2; rcases f2 with q | q <;> cases q
        · refine ⟨c, ?_, hv.keeps hk⟩
          show (cellsFrom (L + 1) scope.names cl).lookup y = some c
          rw [cellsFrom_other _ _ _ _ f1, hcl y hm]; exact hc
      · rw [if_neg hf] at hy; cases hy

/-- the target is stored -/
theorem store_target {prog : Program} {w : World} {A : Around} {E : Value → Shared → Prop} {s : Shared} {cenv : Env} {x : PySem.Str} {px : Pos} {v : Value} {cx : Addr} {Q : Unit → Shared → Prop} (hkind : cenv.scope.kind = .function)
    (hx : (cenv.kindOf x = some .local ∧ cx = cenv.locals) ∨ (cenv.kindOf x = some .cell ∧ cenv.cells.lookup x = some cx ∧ ∃ v, s.heap.IsCell cx v)) (hns : ∃ m, s.heap.Ns cenv.locals m)
    (h : ∀ h' tk, Heap.SameBut cx s.heap h' → Sees cenv h' x v → (∃ o, h'.get? cx = some o) → ((∃ v, s.heap.IsCell cx v) → ∃ v, h'.IsCell cx v) → ((∃ m, s.heap.Ns cx m) → ∃ m, h'.Ns cx m) → Q () { s with heap := h', toks := tk }) :
    wpAny (model prog w) A (assign (.Name x px) cenv v) Q E s := by
  obtain ⟨m, hm⟩ := hns
  rcases hx with ⟨hl, rfl⟩ | ⟨hl, hc, v₀, hv⟩
  · refine wpAny_assign_Name (wpAny_storeName_local hl hm (fun h' hn hs => h h' _ hs (.inl ⟨hl, _, hn, by simp⟩) (let ⟨o, _, _, e, _⟩ := hn; ⟨o, e⟩) (fun ⟨v, o, e, hd⟩ => ?_) fun _ => ⟨_, hn⟩) (by rw [hkind]; rfl))
    obtain ⟨o', es, ep, e', hd', _⟩ := hm
    rw [e] at e'; cases e'; rw [hd] at hd'; cases hd'
  · refine wpAny_assign_Name (wpAny_storeName_cell hkind hl hc hv fun h' hn hs => h h' s.toks hs (.inr ⟨.inl hl, cx, hc, hn⟩) (let ⟨o, e, _⟩ := hn; ⟨o, e⟩) (fun _ => ⟨_, hn⟩) fun ⟨m', o, es, ep, e, hd, _⟩ => ?_)
    obtain ⟨o', e', hd'⟩ := hv
    rw [e] at e'; cases e'; rw [hd] at hd'; cases hd'

theorem tests_any {env : Env} {A : Around} {s : Shared} {Z : Addr → Prop} {ifs : List PySem.Expr} {b : Bool} (h : Tsts C sc σ ifs b) (he : env.scope = sc) (hA : AOk C.k A) (V : VV C env s Z σ) :
    wpAny (model C.prog C.w) A (forIn ifs true fun c r => if r = true then do let ok ← isTrue c env (eval c env); pure (ForInStep.yield ok) else pure (ForInStep.yield r)) (fun b' s' => Kp s s' ∧ b' = b) (fun _ _ => False) s := by
  match ifs, h with
  | [], h => exact wpAny_tests_nil ⟨.rfl' s, h.symm⟩
  | [c], h => exact wpAny_tests_one (h env A s Z he hA V)

theorem comp_run {env : Env} {A : Around} {s : Shared} {Z : Addr → Prop} {x : PySem.Str} {px pos pos' : Pos} {elt iter : PySem.Expr} {ifs : List PySem.Expr} {scope : Scope} {use : Option (Value → Sem Unit)} {Q : Value → Shared → Prop}
    {src : D} {its : List D} {f : Nat → D} {p : Nat → Bool} (he : env.scope = sc) (hA : AOk C.k A) (V : VV C env s Z σ) (hok : compOk sc scope x = true) (hσ : ∀ q ∈ scope.names, q.2 = .free → (σ q.1).isSome = true)
    (hi : Ev C sc σ iter src) (hsrc : Src src its) (hlen : its.length ≤ 2 ^ 24)
    (htest : ∀ i d, its[i]? = some d → Tsts C (relab scope sc) (inner scope σ x d) ifs (p i)) (helt : ∀ i d, its[i]? = some d → p i = true → Ev C (relab scope sc) (inner scope σ x d) elt (f i))
    (hs : ∀ v, foldedSetIterable iter env v = pure v)
    (hfin : ∀ D₁ L h' tk m', s.heap.get? D₁ = none → s.heap.get? L = none → D₁ ≠ L → h'.Ns L m' → (∀ b o, s.heap.get? b = some o → h'.get? b = some o) → Rep h' (fun a => Z a ∨ a = L) (.ref D₁) (.lst (((List.range its.length).filter p).map f)) →
      compPost (model C.prog C.w) A (fun _ _ => False) use Q (.ref D₁) L (.ok .next) { s with heap := h', toks := tk }) :
    wpAny (model C.prog C.w) A (comprehension (.ListComp elt [⟨.Name x px, iter, ifs, 0⟩] scope pos) scope env pos' (newList []) false (eval iter env) use) Q (fun _ _ => False) s := by
  have hfr : ∀ q ∈ scope.names, q.2 = .free → ∃ c, env.cells.lookup q.1 = some c := fun q hq hf => by
    obtain ⟨dq, hdq⟩ := Option.isSome_iff_exists.mp (hσ q hq hf)
    obtain ⟨u, hu, _⟩ := V.var _ _ hdq
    rcases hu with ⟨hl, _⟩ | ⟨_, c, hc, _⟩
    · have hl' : sc.names.lookup q.1 = some .local := by rw [← he]; exact hl
      have := (compOk_free hok q hq hf).2.1
      rw [hl'] at this; rcases this with q | q <;> cases q
    · exact ⟨c, hc⟩
  obtain ⟨cl, hclos, hcl⟩ := closureFor_is hfr
  refine wpAny_comprehension_free (use := use) rfl hs hclos (compOk_kind hok) (compOk_locals hok) (hi.then he hA V fun xv s1 k1 V1 r1 => ?_)
  refine toks_in V1.tk (iter_src hA.hh r1 hsrc hlen fun I fp P S h2 tk2 k2 it p2 => ?_)
  refine wpAny_newObj_type (newEnv_comp fun h₃ hns hcells k3 => ?_) (by show (0 : Nat) ≤ sizeLine; exact Nat.zero_le _)
  dsimp only at hns hcells k3 ⊢
  generalize hDD : h2.objs.size = DD at *
  have hpush : (h2.push { cls := .type "list", dict := none, data := .seq ([] : List Value).toArray }).objs.size = DD + 1 := by rw [Heap.size_push, hDD]
  rw [hpush] at hns hcells ⊢
  have hrel : ({ cEnv scope cl (DD + 1) env with scope := relabel scope env } : Env) = cEnvR scope sc cl (DD + 1) env := by rw [← he]; rfl
  have hloc : (cEnv scope cl (DD + 1) env).locals = DD + 1 := rfl
  rw [hrel, hloc]
  generalize hL : DD + 1 = L at *
  -- where the variable lies
  obtain ⟨cx, hcx⟩ : ∃ cx : Addr, ((cEnvR scope sc cl L env).kindOf x = some .local ∧ cx = (cEnvR scope sc cl L env).locals) ∨ ((cEnvR scope sc cl L env).kindOf x = some .cell ∧ (cEnvR scope sc cl L env).cells.lookup x = some cx ∧ (∃ v, h₃.IsCell cx v) ∧ L + 1 ≤ cx) := by
    rcases compOk_var hok with q | ⟨q, q'⟩
    · exact ⟨L, .inl ⟨q, rfl⟩⟩
    · obtain ⟨c, e, l⟩ := cellsFrom_own scope.names (L + 1) cl x q'
      exact ⟨c, .inr ⟨q, e, ⟨_, hcells x c q' e⟩, l⟩⟩
  have hI2 : I < DD := by obtain ⟨o, e⟩ := it.here; rw [← hDD]; exact Heap.lt_size e
  have hDL : DD < L := by omega
  have hLc : L ≤ cx := by 
    rcases hcx with ⟨_, q⟩ | ⟨_, _, _, q⟩
    · exact Nat.le_of_eq q.symm
    · exact Nat.le_of_succ_le q
  have none_of : ∀ b, DD ≤ b → h2.get? b = none := fun b hb => by
    cases e : h2.get? b with
    | none => rfl
    | some o => exact absurd (Heap.lt_size e) (by rw [hDD]; exact Nat.not_lt.mpr hb)
  have none1 : ∀ b, h2.get? b = none → s1.heap.get? b = none := fun b hb => by
    cases e : s1.heap.get? b with
    | none => rfl
    | some o => rw [k2 b o e] at hb; cases hb
  have none0 : ∀ b, s1.heap.get? b = none → s.heap.get? b = none := fun b hb => by
    cases e : s.heap.get? b with
    | none => rfl
    | some o => rw [k1.old b o e] at hb; cases hb
  -- the zone
  let N : Addr → Prop := fun b => b = I ∨ b = DD ∨ b = L ∨ b = cx
  have hN1 : ∀ b, N b → s1.heap.get? b = none := fun b hb => by
    rcases hb with rfl | rfl | rfl | rfl
    · exact it.new
    · exact none1 _ (none_of _ (Nat.le_refl _))
    · exact none1 _ (none_of _ (Nat.le_of_lt hDL))
    · exact none1 _ (none_of _ (by omega))
  have k23 : ∀ b o, h2.get? b = some o → h₃.get? b = some o := fun b o e => k3 b o (Heap.get?_push_of_some _ e)
  have k13 : ∀ b o, s1.heap.get? b = some o → h₃.get? b = some o := fun b o e => k23 b o (k2 b o e)
  have hDfp : DD ∉ fp := fun hm => absurd (it.fps _ hm) (by rw [hDD]; exact Nat.lt_irrefl _)
  have hcfp : cx ∉ fp := fun hm => absurd (it.fps _ hm) (by rw [hDD]; exact Nat.not_lt.mpr (Nat.le_trans (Nat.le_of_lt hDL) hLc))
  have hstart : S 0 h₃ := it.walks.frame _ _ _ it.start fun b _ o e => k23 b o e
  have hacc : h₃.PlainList DD ([] : List Value).toArray := ⟨_, k3 _ _ (by rw [← hDD]; exact Heap.get?_push_size _ rfl)⟩
  obtain ⟨hq1, tkq, rfl⟩ := k1.eq
  have loop : ∀ tk : Nat, 0 < tk → codeAny (model C.prog C.w) A (.compLoop (.ListComp elt [⟨.Name x px, iter, ifs, 0⟩] scope pos) 0 (.ref I) (.ref DD) (cEnvR scope sc cl L env))
      (compPost (model C.prog C.w) A (fun _ _ => False) use Q (.ref DD) L) { s with heap := h₃, toks := tk } := by
    intro tk ptk
    refine codeAny_compLoop_tests
      (fun k s' => ∃ i h' tk' ys, s' = { s with heap := h', toks := tk' } ∧ 0 < tk' ∧ i ≤ its.length ∧ k = its.length + 1 - i ∧ S i h' ∧ h'.PlainList DD ys.toArray ∧ Reps h' (fun a => Z a ∨ N a) ys (((List.range i).filter p).map f) ∧
        (∃ m, h'.Ns L m) ∧ ((∃ v, h₃.IsCell cx v) → ∃ v, h'.IsCell cx v) ∧ (∀ b, N b → ∃ o, h'.get? b = some o) ∧ (∀ b o, ¬ N b → h₃.get? b = some o → h'.get? b = some o)) ?_ (its.length + 1)
      ⟨0, h₃, tk, [], rfl, ptk, Nat.zero_le _, rfl, hstart, hacc, by simpa using Reps.nil, ⟨_, hns⟩, id, ?_, fun _ _ _ e => e⟩
    · rintro k s' ⟨i, h', tk', ys, rfl, ptk', hi', rfl, hS, hpl, hreps, hnsL, hcell, hNin, hk'⟩
      have old1 : ∀ b o, hq1.get? b = some o → h'.get? b = some o := fun b o e => hk' b o (fun q => by have := hN1 b q; simp only at this; rw [e] at this; cases this) (k13 b o e)
      by_cases hlt : i < its.length
      · refine toks_in ptk' (it.walks.item i _ _ _ hlt hS fun v h4 tk4 hP hS4 hk4 p4 => ?_)
        obtain ⟨d, hd, hrep⟩ := it.item i v hP
        have ne_of : ∀ b, DD ≤ b → b ∉ [I] := fun b hb hm => by rw [List.mem_singleton.mp hm] at hb; exact absurd (Nat.lt_of_lt_of_le hI2 hb) (Nat.lt_irrefl _)
        have hns4 : ∃ m, h4.Ns L m := let ⟨m, e⟩ := hnsL; ⟨m, e.at' fun o e => hk4 _ o (ne_of _ (Nat.le_of_lt hDL)) e⟩
        have hcell4 : (∃ v, h₃.IsCell cx v) → ∃ v, h4.IsCell cx v := fun q => let ⟨v, o, e, hd⟩ := hcell q; ⟨v, o, hk4 _ o (ne_of _ (by omega)) e, hd⟩
        refine toks_in p4 (store_target (cx := cx) (compOk_kind hok : scope.kind = .function) (hcx.imp id fun ⟨q1, q2, q3, _⟩ => ⟨q1, q2, hcell4 q3⟩) hns4 fun h5 tk5 hsb hsees hex hc5 hn5 p5 => ?_)
        have hcxI : I ≠ cx := by intro q; rw [← q] at hLc; exact absurd (Nat.lt_of_lt_of_le (Nat.lt_trans hI2 hDL) hLc) (Nat.lt_irrefl _)
        have hcxD : DD ≠ cx := by intro q; rw [← q] at hLc; exact absurd (Nat.lt_of_lt_of_le hDL hLc) (Nat.lt_irrefl _)
        have N5 : ∀ b, N b → ∃ o, h5.get? b = some o := fun b hb => by
          by_cases hbc : b = cx
          · rw [hbc]; exact hex
          · by_cases hbI : b = I
            · obtain ⟨oI, eI, _⟩ := it.alive _ _ hS4
              exact ⟨oI, by rw [hbI]; exact hsb.extBut I oI hcxI eI⟩
            · obtain ⟨o, e⟩ := hNin b hb
              exact ⟨o, hsb.extBut b o hbc (hk4 b o (fun hm => hbI (List.mem_singleton.mp hm)) e)⟩
        have old5 : ∀ b o, hq1.get? b = some o → h5.get? b = some o := fun b o e => by
          have hbN : ¬ N b := fun q => by have := hN1 b q; simp only at this; rw [e] at this; cases this
          exact hsb.extBut b o (fun q => hbN (.inr (.inr (.inr q)))) (hk4 b o (fun hm => hbN (.inl (List.mem_singleton.mp hm))) (old1 b o e))
        have hk5 : ∀ b o, ¬ N b → h'.get? b = some o → h5.get? b = some o := fun b o hb e => hsb.extBut b o (fun q => hb (.inr (.inr (.inr q)))) (hk4 b o (fun hm => hb (.inl (List.mem_singleton.mp hm))) e)
        have hns5 : ∃ m, h5.Ns L m := by
          by_cases hLx : L = cx
          · rw [hLx]; exact hn5 (by rw [← hLx]; exact hns4)
          · obtain ⟨m, e⟩ := hns4; exact ⟨m, e.sameBut hsb hLx⟩
        have hcell5 : (∃ v, h₃.IsCell cx v) → ∃ v, h5.IsCell cx v := fun q => hc5 (hcell4 q)
        have hpl5 : h5.PlainList DD ys.toArray := hpl.at fun o e => hsb.extBut DD o hcxD (hk4 DD o (ne_of _ (Nat.le_refl _)) e)
        have hS5 : S (i + 1) h5 := it.walks.frame _ _ _ hS4 fun b hb o e => hsb.extBut b o (fun q => hcfp (q ▸ hb)) e
        have hreps5 : Reps h5 (fun a => Z a ∨ N a) ys (((List.range i).filter p).map f) := hreps.move (fun b o hb e => hk5 b o (fun q => hb (.inr q)) e) fun b q => .inl q
        have hrep5 : Rep h5 (fun a => Z a ∨ N a) v d := hrep.move (fun b o _ e => old5 b o e) fun b q => q.imp id (hN1 b)
        have V5 : VV C (cEnvR scope sc cl L env) { s with heap := h5, toks := tk5 } (fun a => Z a ∨ N a) (inner scope σ x d) := VV.mk (
          view_inner V1.toView he hok hcl old5 (fun b q => q.imp id (hN1 b)) (fun b q => q.elim (fun q => let ⟨o, e⟩ := V1.zin b q; ⟨o, old5 b o e⟩) (N5 b)) hsees hrep5) p5
        have htake : List.range (i + 1) = List.range i ++ [i] := List.range_succ
        refine toks_in (s := { s with heap := h5, toks := tk5 }) p5 (wpAny_mono (tests_any (s := { s with heap := h5, toks := tk5 }) (htest i d hd) rfl hA V5) (fun b6 s6 q6 p6 => ?_) fun _ _ q => q.elim)
        obtain ⟨k6, rfl⟩ := q6
        obtain ⟨h6, tk6, rfl⟩ := k6.eq
        have k56 : ∀ b o, h5.get? b = some o → h6.get? b = some o := k6.old
        cases hpd : p i with
        | false =>
          rw [if_neg Bool.false_ne_true]
          refine ⟨its.length + 1 - (i + 1), by omega, i + 1, h6, tk6, ys, rfl, p6, hlt, rfl, it.walks.frame _ _ _ hS5 fun b _ o e => k56 b o e, hpl5.at fun o e => k56 _ o e, ?_, let ⟨m, e⟩ := hns5; ⟨m, e.keeps k56⟩,
            fun q => let ⟨v, e⟩ := hcell5 q; ⟨v, e.keeps k56⟩, fun b hb => let ⟨o, e⟩ := N5 b hb; ⟨o, k56 b o e⟩, fun b o hb e => k56 b o (hk5 b o hb (hk' b o hb e))⟩
          rw [htake, List.filter_append]
          simpa [hpd] using hreps5.keeps k56
        | true =>
          rw [if_pos rfl]
          refine toks_in (s := { s with heap := h6, toks := tk6 }) p6 (wpAny_mono ((helt i d hd hpd) (cEnvR scope sc cl L env) A _ (fun a => Z a ∨ N a) rfl hA ⟨V5.toView.keeps k56, p6⟩) (fun y s7 q7 p7 => ?_) fun _ _ q => q.elim)
          obtain ⟨k7, r7⟩ := q7
          obtain ⟨h7, tk7, rfl⟩ := k7.eq
          have k57 : ∀ b o, h5.get? b = some o → h7.get? b = some o := fun b o e => k7.old b o (k56 b o e)
          have hys : ys.toArray.size ≤ sizeLine := by
            rw [List.size_toArray, hreps.length]
            have e1 : ((List.range i).filter p).length ≤ (List.range i).length := List.length_filter_le _ _
            rw [List.length_range] at e1
            rw [List.length_map]
            have : sizeLine = 2 ^ 24 := rfl
            omega
          refine wpAny_list_append_plain (hsz := hys) (hpl5.at fun o e => k57 _ o e) fun h8 hpl8 hs8 => ?_
          have n8 : ∀ b, b ≠ DD → ∀ o, h7.get? b = some o → h8.get? b = some o := fun b hb o e => hs8.extBut b o hb e
          refine ⟨its.length + 1 - (i + 1), by omega, i + 1, h8, tk7, ys ++ [y], rfl, p7, hlt, rfl, it.walks.frame _ _ _ hS5 fun b hb o e => n8 b (fun q => hDfp (q ▸ hb)) o (k57 b o e), by simpa using hpl8, ?_, let ⟨m, e⟩ := hns5; ⟨m, (e.keeps k57).sameBut hs8 (Nat.ne_of_gt hDL)⟩,
            fun q => let ⟨v, e⟩ := hcell5 q; ⟨v, (e.keeps k57).sameBut hs8 (Ne.symm hcxD)⟩, fun b hb => ?_, fun b o hb e => n8 b (fun q => hb (.inr (.inl q))) o (k57 b o (hk5 b o hb (hk' b o hb e)))⟩
          · rw [htake, List.filter_append]
            have r8 : Reps h8 (fun a => Z a ∨ N a) (ys ++ [y]) (((List.range i).filter p).map f ++ [f i]) :=
              ((hreps5.keeps k57).snoc r7).move (fun b o hb e => n8 b (fun q => hb (.inr (.inr (.inl q)))) o e) fun b q => .inl q
            simpa [hpd] using r8
          · by_cases hbD : b = DD
            · obtain ⟨_, e⟩ := hpl8; exact ⟨_, by rw [hbD]; exact e⟩
            · obtain ⟨o, e⟩ := N5 b hb; exact ⟨o, n8 b hbD o (k57 b o e)⟩
      · have hin : i = its.length := Nat.le_antisymm hi' (Nat.not_lt.mp hlt)
        subst hin
        refine it.walks.done _ _ _ hS fun h4 tk4 hk4 => ?_
        have ne_of : ∀ b, DD ≤ b → b ∉ [I] := fun b hb hm => by rw [List.mem_singleton.mp hm] at hb; exact absurd (Nat.lt_of_lt_of_le hI2 hb) (Nat.lt_irrefl _)
        have old4 : ∀ b o, hq1.get? b = some o → h4.get? b = some o := fun b o e => by
          have hbN : ¬ N b := fun q => by have := hN1 b q; simp only at this; rw [e] at this; cases this
          exact hk4 b o (fun hm => hbN (.inl (List.mem_singleton.mp hm))) (old1 b o e)
        obtain ⟨m, em⟩ := hnsL
        refine hfin DD L h4 tk4 m (none0 _ (hN1 DD (.inr (.inl rfl)))) (none0 _ (hN1 L (.inr (.inr (.inl rfl))))) (Nat.ne_of_lt hDL) (em.at' fun o e => hk4 _ o (ne_of _ (Nat.le_of_lt hDL)) e) (fun b o e => old4 b o (k1.old b o e)) ?_
        refine .lst (fun q => ?_) (hpl.at fun o e => hk4 _ o (ne_of _ (Nat.le_refl _)) e) (hreps.move (fun b o hb e => hk4 b o (fun hm => hb (.inr (.inl (List.mem_singleton.mp hm)))) e) fun b q => .inl (q.imp id fun q => .inr (.inr (.inl q))))
        rcases q with q | q
        · obtain ⟨o, e⟩ := V1.zin _ q
          have := hN1 DD (.inr (.inl rfl)); rw [e] at this; cases this
        · exact absurd q (Nat.ne_of_lt hDL)
    · intro b hb
      rcases hb with rfl | rfl | rfl | rfl
      · obtain ⟨o, e⟩ := it.here; exact ⟨o, k23 _ o e⟩
      · obtain ⟨_, e⟩ := hacc; exact ⟨_, e⟩
      · obtain ⟨o, _, _, e, _⟩ := hns; exact ⟨o, e⟩
      · rcases hcx with ⟨_, q⟩ | ⟨_, _, ⟨v, o, e, _⟩, _⟩
        · rw [q]; obtain ⟨o, _, _, e, _⟩ := hns; exact ⟨o, e⟩
        · exact ⟨o, e⟩
  exact codeAny_compStart_list (loop _ p2) (it.walks.self 0 _ _ _ hstart (loop _ p2))
end
end Mine
namespace Mine
section
variable {C : Cx} {sc : Scope} {σ : St}

noncomputable def notSet : PySem.Expr → Bool
  | .Set .. => false
  | _ => true
theorem folded_not {iter : PySem.Expr} {env : Env} {v : Value} (h : notSet iter = true) : foldedSetIterable iter env v = pure v := by
  cases iter <;> first | rfl | (cases h)

/-- all that the closure takes is known -/
noncomputable def freeOk (σ : St) (scope : Scope) : Bool := scope.names.all fun q => q.2 != .free || (σ q.1).isSome
theorem freeOk_mem {scope : Scope} (h : freeOk σ scope = true) : ∀ q ∈ scope.names, q.2 = .free → (σ q.1).isSome = true := fun q hq hf => by
  have := List.all_eq_true.mp h q hq
  simpa [hf] using this

theorem Ev.compIf {x : PySem.Str} {px pos : Pos} {elt iter : PySem.Expr} {ifs : List PySem.Expr} {scope : Scope} {src : D} {its : List D} (f : Nat → D) (p : Nat → Bool) (hok : compOk sc scope x = true) (hσ : freeOk σ scope = true)
    (hi : Ev C sc σ iter src) (hsrc : Src src its) (hlen : its.length ≤ 2 ^ 24)
    (htest : ∀ i d, its[i]? = some d → Tsts C (relab scope sc) (inner scope σ x d) ifs (p i)) (helt : ∀ i d, its[i]? = some d → p i = true → Ev C (relab scope sc) (inner scope σ x d) elt (f i)) (hs : notSet iter = true := by rfl) :
    Ev C sc σ (.ListComp elt [⟨.Name x px, iter, ifs, 0⟩] scope pos) (.lst (((List.range its.length).filter p).map f)) := by
  intro env A s Z he hA V
  rw [eval_ListComp]
  refine comp_run he hA V hok (freeOk_mem hσ) hi hsrc hlen htest helt (fun _ => folded_not hs) fun D₁ L h' tk m' hD hL hDL hns hk hr => ⟨m', hns, fun h'' hsb => ?_⟩
  refine ⟨.mk' fun b o e => hsb.extBut b o (fun q => by rw [q, hL] at e; cases e) (hk b o e), ?_⟩
  exact hr.move (fun b o hb e => hsb.extBut b o (fun q => hb (.inr q)) e) fun b q => .inl (.inl q)

theorem range_getD {α : Type} (l : List α) (d : α) : (List.range l.length).map (fun i => l.getD i d) = l := by
  apply List.ext_getElem
  · simp
  · intro i h1 h2
    simp [List.getElem?_eq_getElem h2]

/-- over a list, seen as the image of any list -/
theorem Ev.compL {α : Type} {x : PySem.Str} {px pos : Pos} {elt iter : PySem.Expr} {scope : Scope} {src : D} (l : List α) (c g : α → D) (hok : compOk sc scope x = true) (hσ : freeOk σ scope = true)
    (hi : Ev C sc σ iter src) (hsrc : Src src (l.map c)) (hlen : l.length ≤ 2 ^ 24)
    (helt : ∀ a ∈ l, Ev C (relab scope sc) (inner scope σ x (c a)) elt (g a)) (hs : notSet iter = true := by rfl) :
    Ev C sc σ (.ListComp elt [⟨.Name x px, iter, [], 0⟩] scope pos) (.lst (l.map g)) := by
  have key : ∀ i d, (l.map c)[i]? = some d → ∃ a ∈ l, d = c a ∧ (l.map g).getD i .none = g a := fun i d hd => by
    rw [List.getElem?_map, Option.map_eq_some_iff] at hd
    obtain ⟨a, ha, rfl⟩ := hd
    exact ⟨a, List.mem_of_getElem? ha, rfl, by simp [List.getD_eq_getElem?_getD, ha]⟩
  have := Ev.compIf (C := C) (sc := sc) (σ := σ) (px := px) (pos := pos) (ifs := []) (fun i => (l.map g).getD i .none) (fun _ => true) hok hσ hi hsrc (by simpa using hlen) (fun _ _ _ => rfl) (fun i d hd _ => by
    obtain ⟨a, ha, rfl, e⟩ := key i d hd; rw [e]; exact helt a ha) hs
  rw [List.filter_eq_self.mpr (fun _ _ => rfl), List.length_map] at this
  have e := range_getD (l.map g) D.none
  rw [List.length_map] at e
  rw [e] at this
  exact this
/-- over a range -/
theorem Ev.compN {x : PySem.Str} {px pos : Pos} {elt iter : PySem.Expr} {scope : Scope} {n : Nat} (g : Nat → D) (hok : compOk sc scope x = true) (hσ : freeOk σ scope = true)
    (hi : Ev C sc σ iter (.rng n)) (hn : n ≤ 2 ^ 24)
    (helt : ∀ i, i < n → Ev C (relab scope sc) (inner scope σ x (.int (i : Int))) elt (g i)) (hs : notSet iter = true := by rfl) :
    Ev C sc σ (.ListComp elt [⟨.Name x px, iter, [], 0⟩] scope pos) (.lst ((List.range n).map g)) :=
  Ev.compL (List.range n) (fun i => .int (i : Int)) g hok hσ hi (.rng n hn) (by simpa using hn) (fun i hi => helt i (List.mem_range.mp hi)) hs
theorem Ev.compNIf {x : PySem.Str} {px pos : Pos} {elt iter t : PySem.Expr} {scope : Scope} {n : Nat} (g : Nat → D) (p : Nat → Bool) (hok : compOk sc scope x = true) (hσ : freeOk σ scope = true)
    (hi : Ev C sc σ iter (.rng n)) (hn : n ≤ 2 ^ 24) (htest : ∀ i, i < n → Tst C (relab scope sc) (inner scope σ x (.int (i : Int))) t (p i))
    (helt : ∀ i, i < n → p i = true → Ev C (relab scope sc) (inner scope σ x (.int (i : Int))) elt (g i)) (hs : notSet iter = true := by rfl) :
    Ev C sc σ (.ListComp elt [⟨.Name x px, iter, [t], 0⟩] scope pos) (.lst (((List.range n).filter p).map g)) := by
  have key : ∀ i d, ((List.range n).map fun (i : Nat) => D.int (i : Int))[i]? = some d → i < n ∧ d = .int (i : Int) := fun i d hd => by
    have hlt : i < n := by
      rcases Nat.lt_or_ge i n with q | q
      · exact q
      · rw [List.getElem?_eq_none (by simpa using q)] at hd; cases hd
    simp [hlt] at hd; exact ⟨hlt, hd.symm⟩
  have := Ev.compIf (C := C) (sc := sc) (σ := σ) (px := px) (pos := pos) (ifs := [t]) g p hok hσ hi (.rng n hn) (by simpa using hn) (fun i d hd => by obtain ⟨hl, rfl⟩ := key i d hd; exact htest i hl) (fun i d hd hp => by obtain ⟨hl, rfl⟩ := key i d hd; exact helt i hl hp) hs
  rw [List.length_map, List.length_range] at this
  exact this
end
end Mine
namespace Mine

noncomputable def Own (env : Env) (h : Heap) (σ : St) (a : Addr) : Prop := ∃ x ds, σ x = some (.own ds) ∧ Sees env h x (.ref a)
noncomputable def Zone (env : Env) (h : Heap) (X Z : Addr → Prop) (σ : St) (a : Addr) : Prop := X a ∨ Z a ∨ Own env h σ a

structure FView (C : Cx) (env : Env) (h : Heap) (X Z : Addr → Prop) (σ : St) : Prop where
  view : View C env h (Zone env h X Z σ) σ
  loc : ∃ m, h.Ns env.locals m
  zloc : Z env.locals
  cel : ∀ x c, env.cells.lookup x = some c → Z c ∧ ∃ v, h.IsCell c v
  celk : ∀ x, env.kindOf x = some .cell → ∃ c, env.cells.lookup x = some c
  apart : ∀ x y c, env.cells.lookup x = some c → env.cells.lookup y = some c → x = y
  znew : ∀ a, Z a → C.h₀.get? a = none
  ownz : ∀ a, Own env h σ a → ¬ X a ∧ ¬ Z a ∧ C.h₀.get? a = none
  ownap : ∀ x y ds es a, σ x = some (.own ds) → σ y = some (.own es) → Sees env h x (.ref a) → Sees env h y (.ref a) → x = y

structure FV (C : Cx) (env : Env) (s : Shared) (X Z : Addr → Prop) (σ : St) : Prop extends FView C env s.heap X Z σ where
  tk : 0 < s.toks

structure Stp (env : Env) (Z : Addr → Prop) (h : Heap) (σ : St) (h' : Heap) (σ' : St) : Prop where
  stay : ∀ b o, ¬ Z b → ¬ Own env h σ b → h.get? b = some o → h'.get? b = some o
  live : ∀ b, (∃ o, h.get? b = some o) → ∃ o, h'.get? b = some o
  own : ∀ a, Own env h' σ' a → Own env h σ a ∨ h.get? a = none

theorem Stp.tr {env : Env} {Z : Addr → Prop} {h h' h'' : Heap} {σ σ' σ'' : St} (a : Stp env Z h σ h' σ') (b : Stp env Z h' σ' h'' σ'') : Stp env Z h σ h'' σ'' where
  stay := fun c o hz ho e => b.stay c o hz (fun q => by
    rcases a.own c q with q | q
    · exact ho q
    · rw [e] at q; cases q) (a.stay c o hz ho e)
  live := fun c q => b.live c (a.live c q)
  own := fun c q => by
    rcases b.own c q with q | q
    · exact a.own c q
    · refine .inr ?_
      cases e : h.get? c with
      | none => rfl
      | some o => obtain ⟨o', e'⟩ := a.live c ⟨o, e⟩; rw [q] at e'; cases e'

theorem ns_fun {h : Heap} {a : Addr} {m m' : PySem.Str → Option Value} (x : h.Ns a m) (y : h.Ns a m') : m = m' := by
  obtain ⟨o, es, ep, e, d, _, f⟩ := x
  obtain ⟨o', es', ep', e', d', _, f'⟩ := y
  rw [e] at e'; cases e'; rw [d] at d'; cases d'
  funext n; rw [← f n, f' n]
theorem cell_fun {h : Heap} {c : Addr} {v v' : Option Value} (x : h.IsCell c v) (y : h.IsCell c v') : v = v' := by
  obtain ⟨o, e, d⟩ := x; obtain ⟨o', e', d'⟩ := y
  rw [e] at e'; cases e'; rw [d] at d'; cases d'; rfl
theorem Sees.fun {env : Env} {h : Heap} {x : PySem.Str} {v v' : Value} (a : Sees env h x v) (b : Sees env h x v') : v = v' := by
  rcases a with ⟨k, m, n, e⟩ | ⟨k, c, n, e⟩ <;> rcases b with ⟨k', m', n', e'⟩ | ⟨k', c', n', e'⟩
  · rw [ns_fun n n'] at e; rw [e] at e'; cases e'; rfl
  · rw [k] at k'; rcases k' with q | q <;> cases q
  · rw [k'] at k; rcases k with q | q <;> cases q
  · rw [n] at n'; cases n'; have := cell_fun e e'; cases this; rfl
theorem ns_not_cell {h : Heap} {a : Addr} {m : PySem.Str → Option Value} {v : Option Value} (x : h.Ns a m) (y : h.IsCell a v) : False := by
  obtain ⟨o, es, ep, e, d, _⟩ := x; obtain ⟨o', e', d'⟩ := y
  rw [e] at e'; cases e'; rw [d] at d'; cases d'

section
variable {C : Cx} {env : Env} {h : Heap} {X Z : Addr → Prop} {σ : St}

theorem FView.keeps {h' : Heap} (F : FView C env h X Z σ) (hk : ∀ b o, h.get? b = some o → h'.get? b = some o) : FView C env h' X Z σ ∧ Stp env Z h σ h' σ ∧ (∀ a, Zone env h' X Z σ a ↔ Zone env h X Z σ a) := by
  have seesEq : ∀ x d v, σ x = some d → Sees env h' x v → Sees env h x v := fun x d v hx hs => by
    obtain ⟨u, hu, _⟩ := F.view.var x d hx
    have := (hu.keeps hk).fun hs; subst this; exact hu
  have ownEq : ∀ a, Own env h' σ a ↔ Own env h σ a := fun a => ⟨fun ⟨x, ds, e, hs⟩ => ⟨x, ds, e, seesEq x _ _ e hs⟩, fun ⟨x, ds, e, hs⟩ => ⟨x, ds, e, hs.keeps hk⟩⟩
  have zoneEq : ∀ a, Zone env h' X Z σ a ↔ Zone env h X Z σ a := fun a => by unfold Zone; rw [ownEq]
  have zz : Zone env h' X Z σ = Zone env h X Z σ := funext fun a => propext (zoneEq a)
  refine ⟨⟨by rw [zz]; exact F.view.keeps hk, let ⟨m, e⟩ := F.loc; ⟨m, e.keeps hk⟩, F.zloc, fun x c e => let ⟨a, v, b⟩ := F.cel x c e; ⟨a, v, b.keeps hk⟩, F.celk, F.apart, F.znew, fun a q => F.ownz a ((ownEq a).mp q),
    fun x y ds es a hx hy sx sy => F.ownap x y ds es a hx hy (seesEq x _ _ hx sx) (seesEq y _ _ hy sy)⟩, ⟨fun b o _ _ e => hk b o e, fun b ⟨o, e⟩ => ⟨o, hk b o e⟩, fun a q => .inl ((ownEq a).mp q)⟩, zoneEq⟩

/-- a change at one address of the zone that keeps what the names see, but x's -/
theorem FView.store {h' : Heap} {x : PySem.Str} {v : Value} {d : D} {a : Addr} (F : FView C env h X Z σ) (hs : Heap.SameBut a h h') (ha : Z a) (hex : ∃ o, h'.get? a = some o) (hx : Sees env h' x v) (hoth : ∀ y u, y ≠ x → (Sees env h' y u ↔ Sees env h y u))
    (hloc : ∃ m, h'.Ns env.locals m) (hcel : ∀ y c, env.cells.lookup y = some c → ∃ u, h'.IsCell c u) (hr : Rep h (Zone env h X Z σ) v d) : FView C env h' X Z (upd σ x d) ∧ Stp env Z h σ h' (upd σ x d) := by
  have hd : d.isOwn = false := by cases hr <;> rfl
  have ownSub : ∀ b, Own env h' (upd σ x d) b → Own env h σ b := fun b ⟨y, ds, e, q⟩ => by
    unfold upd at e
    by_cases hy : y = x
    · rw [if_pos hy] at e; cases e; simp [D.isOwn] at hd
    · rw [if_neg hy] at e; exact ⟨y, ds, e, (hoth y _ hy).mp q⟩
  have zoneSub : ∀ b, Zone env h' X Z (upd σ x d) b → Zone env h X Z σ b := fun b q => q.imp id (Or.imp id (ownSub b))
  have stay : ∀ b o, ¬ Z b → h.get? b = some o → h'.get? b = some o := fun b o hb e => hs.extBut b o (fun q => hb (q ▸ ha)) e
  have live : ∀ b, (∃ o, h.get? b = some o) → ∃ o, h'.get? b = some o := fun b ⟨o, e⟩ => by
    by_cases hb : b = a
    · rw [hb]; exact hex
    · exact ⟨o, hs.extBut b o hb e⟩
  refine ⟨⟨⟨F.view.base, fun b o e => stay b o (fun q => by rw [F.znew b q] at e; cases e) (F.view.keep b o e), F.view.kind, F.view.glb, F.view.bui, fun b q => live b (F.view.zin b (zoneSub b q)), fun y dy hy => ?_⟩, hloc, F.zloc, fun y c e => ⟨(F.cel y c e).1, hcel y c e⟩, F.celk, F.apart, F.znew,
    fun b q => F.ownz b (ownSub b q), fun y z ds es b hy hz sy sz => ?_⟩, ⟨fun b o hb _ e => stay b o hb e, live, fun b q => .inl (ownSub b q)⟩⟩
  · unfold upd at hy
    by_cases hyx : y = x
    · rw [if_pos hyx] at hy; cases hy; rw [hyx]
      exact ⟨v, hx, .of (hr.move (fun b o hb e => stay b o (fun q => hb (.inr (.inl q))) e) fun b q => .inl (zoneSub b q))⟩
    · rw [if_neg hyx] at hy
      obtain ⟨u, hu, ru⟩ := F.view.var y dy hy
      refine ⟨u, (hoth y u hyx).mpr hu, ru.move (fun b o hb e => stay b o (fun q => hb (.inr (.inl q))) e) (fun b q => .inl (zoneSub b q)) fun l b hd' hub o e => ?_⟩
      subst hd'; subst hub
      exact stay b o (F.ownz b ⟨y, l, hy, hu⟩).2.1 e
  · unfold upd at hy hz
    by_cases hyx : y = x
    · rw [if_pos hyx] at hy; cases hy; simp [D.isOwn] at hd
    · by_cases hzx : z = x
      · rw [if_pos hzx] at hz; cases hz; simp [D.isOwn] at hd
      · rw [if_neg hyx] at hy; rw [if_neg hzx] at hz
        exact F.ownap y z ds es b hy hz ((hoth y _ hyx).mp sy) ((hoth z _ hzx).mp sz)


theorem storeName_F {M : Model} {A : Around} {E : Value → Shared → Prop} {s : Shared} {x : PySem.Str} {v : Value} {d : D} {Q : Unit → Shared → Prop} (F : FView C env s.heap X Z σ) (hx : env.kindOf x = some .local ∨ env.kindOf x = some .cell) (hr : Rep s.heap (Zone env s.heap X Z σ) v d)
    (hq : ∀ h' tk, FView C env h' X Z (upd σ x d) → Stp env Z s.heap σ h' (upd σ x d) → Q () { s with heap := h', toks := tk }) : wpAny M A (storeName env x v) Q E s := by
  obtain ⟨m, hm⟩ := F.loc
  rcases hx with hl | hl
  · refine wpAny_storeName_local hl hm (fun h' hn hs => ?_) (by rw [F.view.kind]; rfl)
    have cne : ∀ y c, env.cells.lookup y = some c → c ≠ env.locals := fun y c e q => by
      obtain ⟨_, u, hu⟩ := F.cel y c e; rw [q] at hu; exact ns_not_cell hm hu
    have key := F.store (x := x) (v := v) (d := d) hs F.zloc (let ⟨o, _, _, e, _⟩ := hn; ⟨o, e⟩) (.inl ⟨hl, _, hn, by simp⟩) (fun y u hy => ?_) ⟨_, hn⟩ (fun y c e => let ⟨_, u, hu⟩ := F.cel y c e; ⟨u, hu.sameBut hs (cne y c e)⟩) hr
    · exact hq h' _ key.1 key.2
    · constructor
      · rintro (⟨k, m', n', e⟩ | ⟨k, c, n', e⟩)
        · rw [ns_fun n' hn] at e; dsimp only at e; rw [if_neg hy] at e; exact .inl ⟨k, m, hm, e⟩
        · obtain ⟨_, u', hu⟩ := F.cel y c n'
          have := cell_fun (hu.sameBut hs (cne y c n')) e; subst this
          exact .inr ⟨k, c, n', hu⟩
      · rintro (⟨k, m', n', e⟩ | ⟨k, c, n', e⟩)
        · rw [ns_fun n' hm] at e; exact .inl ⟨k, _, hn, by rw [if_neg hy]; exact e⟩
        · exact .inr ⟨k, c, n', e.sameBut hs (cne y c n')⟩
  · obtain ⟨c, hc⟩ := F.celk x hl
    obtain ⟨hzc, v₀, hv₀⟩ := F.cel x c hc
    refine wpAny_storeName_cell F.view.kind hl hc hv₀ fun h' hn hs => ?_
    have cne : env.locals ≠ c := fun q => by rw [← q] at hv₀; exact ns_not_cell hm hv₀
    have oth : ∀ y c', y ≠ x → env.cells.lookup y = some c' → c' ≠ c := fun y c' hy e q => hy (F.apart y x c (q ▸ e) hc)
    have key := F.store (x := x) (v := v) (d := d) hs hzc (let ⟨o, e, _⟩ := hn; ⟨o, e⟩) (.inr ⟨.inl hl, c, hc, hn⟩) (fun y u hy => ?_) ⟨_, hm.sameBut hs cne⟩ (fun y c' e => ?_) hr
    · exact hq h' s.toks key.1 key.2
    · constructor
      · rintro (⟨k, m', n', e⟩ | ⟨k, c', n', e⟩)
        · rw [ns_fun n' (hm.sameBut hs cne)] at e; exact .inl ⟨k, m, hm, e⟩
        · obtain ⟨_, u', hu⟩ := F.cel y c' n'
          have := cell_fun (hu.sameBut hs (oth y c' hy n')) e; subst this
          exact .inr ⟨k, c', n', hu⟩
      · rintro (⟨k, m', n', e⟩ | ⟨k, c', n', e⟩)
        · rw [ns_fun n' hm] at e; exact .inl ⟨k, m, hm.sameBut hs cne, e⟩
        · exact .inr ⟨k, c', n', e.sameBut hs (oth y c' hy n')⟩
    · by_cases hy : y = x
      · subst hy; rw [hc] at e; cases e; exact ⟨_, hn⟩
      · obtain ⟨_, u, hu⟩ := F.cel y c' e; exact ⟨u, hu.sameBut hs (oth y c' hy e)⟩
end

inductive Out where
  | next (σ : St)
  | brk (σ : St)
  | ret (d : D)

/-- what a way out of statements must bear -/
noncomputable def OutOk (C : Cx) (env : Env) (h : Heap) (X Z : Addr → Prop) (σ : St) (h' : Heap) : Flow → Out → Prop
  | .next, .next σ' => FView C env h' X Z σ' ∧ Stp env Z h σ h' σ'
  | .brk, .brk σ' => FView C env h' X Z σ' ∧ Stp env Z h σ h' σ'
  | .ret v, .ret d => Rep h' (fun a => X a ∨ Z a) v d ∧ (∀ b o, ¬ Z b → ¬ Own env h σ b → h.get? b = some o → h'.get? b = some o)
  | _, _ => False

noncomputable def Ex1 (C : Cx) (sc : Scope) (σ : St) (st : Stmt) (o : Out) : Prop :=
  ∀ (env : Env) (A : Around) (s : Shared) (X Z : Addr → Prop), env.scope = sc → AOk C.k A → FV C env s X Z σ →
    wpAny (model C.prog C.w) A (exec st env) (fun f s' => ∃ h' tk, s' = { s with heap := h', toks := tk } ∧ OutOk C env s.heap X Z σ h' f o) (fun _ _ => False) s
noncomputable def Ex (C : Cx) (sc : Scope) (σ : St) (ss : List Stmt) (o : Out) : Prop :=
  ∀ (env : Env) (A : Around) (s : Shared) (X Z : Addr → Prop), env.scope = sc → AOk C.k A → FV C env s X Z σ →
    wpAny (model C.prog C.w) A (execs ss env) (fun f s' => ∃ h' tk, s' = { s with heap := h', toks := tk } ∧ OutOk C env s.heap X Z σ h' f o) (fun _ _ => False) s

theorem OutOk.tr {C : Cx} {env : Env} {h h' h'' : Heap} {X Z : Addr → Prop} {σ σ' : St} {f : Flow} {o : Out} (a : Stp env Z h σ h' σ') (b : OutOk C env h' X Z σ' h'' f o) : OutOk C env h X Z σ h'' f o := by
  cases f <;> cases o <;> first | exact b.elim | skip
  · exact ⟨b.1, a.tr b.2⟩
  · exact ⟨b.1, a.tr b.2⟩
  · refine ⟨b.1, fun c o hz ho e => b.2 c o hz (fun q => ?_) (a.stay c o hz ho e)⟩
    rcases a.own c q with q | q
    · exact ho q
    · rw [e] at q; cases q

section
variable {C : Cx} {sc : Scope} {σ : St}

theorem stp_rfl {env : Env} {Z : Addr → Prop} {h : Heap} : Stp env Z h σ h σ := ⟨fun _ _ _ _ e => e, fun _ q => q, fun _ q => .inl q⟩

theorem Ex.nil : Ex C sc σ [] (.next σ) := fun _ _ s _ _ _ _ F => wpAny_execs_nil ⟨s.heap, s.toks, rfl, F.toFView, stp_rfl⟩
theorem Ex.cons {σ' : St} {st : Stmt} {rest : List Stmt} {o : Out} (h1 : Ex1 C sc σ st (.next σ')) (h2 : Ex C sc σ' rest o) : Ex C sc σ (st :: rest) o := by
  intro env A s X Z he hA F
  refine wpAny_execs_cons (toks_in F.tk (wpAny_mono (h1 env A s X Z he hA F) (fun f s' q p => ?_) fun _ _ q => q.elim))
  obtain ⟨h', tk, rfl, q⟩ := q
  cases f with
  | next =>
    refine wpAny_mono (h2 env A _ X Z he hA ⟨q.1, p⟩) (fun f s'' q' => ?_) fun _ _ q => q.elim
    obtain ⟨h'', tk', rfl, q'⟩ := q'
    exact ⟨h'', tk', rfl, q'.tr q.2⟩
  | _ => exact q.elim
noncomputable def Out.stops : Out → Bool
  | .next _ => false
  | _ => true
theorem Ex.stop {st : Stmt} {rest : List Stmt} {o : Out} (h1 : Ex1 C sc σ st o) (ho : o.stops = true := by rfl) : Ex C sc σ (st :: rest) o := by
  intro env A s X Z he hA F
  refine wpAny_execs_cons (wpAny_mono (h1 env A s X Z he hA F) (fun f s' q => ?_) fun _ _ q => q.elim)
  cases f with
  | next => obtain ⟨h', tk, rfl, q⟩ := q; cases o <;> first | exact q.elim | (simp [Out.stops] at ho)
  | _ => exact q

/-- an expression, then the rest, at the level of statements -/
theorem Ev.thenF {e : PySem.Expr} {d : D} {env : Env} {A : Around} {s : Shared} {X Z : Addr → Prop} {Q : Value → Shared → Prop} (x : Ev C sc σ e d) (he : env.scope = sc) (hA : AOk C.k A) (F : FV C env s X Z σ)
    (h : ∀ v h' tk, FV C env { s with heap := h', toks := tk } X Z σ → Stp env Z s.heap σ h' σ → Rep h' (Zone env h' X Z σ) v d → Q v { s with heap := h', toks := tk }) : wpAny (model C.prog C.w) A (eval e env) Q (fun _ _ => False) s :=
  x.then he hA ⟨F.view, F.tk⟩ fun v s' k V r => by
    obtain ⟨h', tk, rfl⟩ := k.eq
    obtain ⟨F', S', zz⟩ := F.toFView.keeps k.old
    exact h v h' tk ⟨F', V.tk⟩ S' (r.weaken fun b q => (zz b).mp q)
theorem Tst.thenF {e : PySem.Expr} {b : Bool} {env : Env} {A : Around} {s : Shared} {X Z : Addr → Prop} {Q : Bool → Shared → Prop} (x : Tst C sc σ e b) (he : env.scope = sc) (hA : AOk C.k A) (F : FV C env s X Z σ)
    (h : ∀ h' tk, FV C env { s with heap := h', toks := tk } X Z σ → Stp env Z s.heap σ h' σ → Q b { s with heap := h', toks := tk }) : wpAny (model C.prog C.w) A (isTrue e env (eval e env)) Q (fun _ _ => False) s :=
  x.then he hA ⟨F.view, F.tk⟩ fun s' k V => by
    obtain ⟨h', tk, rfl⟩ := k.eq
    obtain ⟨F', S', zz⟩ := F.toFView.keeps k.old
    exact h h' tk ⟨F', V.tk⟩ S'

theorem Ex1.ret {e : PySem.Expr} {pos : Pos} {d : D} (h : Ev C sc σ e d) : Ex1 C sc σ (.Return (some e) pos) (.ret d) := by
  intro env A s X Z he hA F
  refine wpAny_Return_some (h.thenF he hA F fun v h' tk F' S r => ⟨h', tk, rfl, r.weaken fun b q => q.imp id .inl, S.stay⟩)
theorem Ex1.brk {pos : Pos} : Ex1 C sc σ (.Break pos) (.brk σ) := fun _ _ s _ _ _ _ F => wpAny_Break ⟨s.heap, s.toks, rfl, F.toFView, stp_rfl⟩
theorem Ex1.iff {t : PySem.Expr} {b e : List Stmt} {pos : Pos} {c : Bool} {o : Out} (ht : Tst C sc σ t c) (hb : c = true → Ex C sc σ b o) (he' : c = false → Ex C sc σ e o) : Ex1 C sc σ (.If t b e pos) o := by
  intro env A s X Z he hA F
  refine wpAny_If (ht.thenF he hA F fun h' tk F' S => ?_)
  have fin : ∀ ss, Ex C sc σ ss o → wpAny (model C.prog C.w) A (execs ss env) (fun f s' => ∃ h' tk, s' = { s with heap := h', toks := tk } ∧ OutOk C env s.heap X Z σ h' f o) (fun _ _ => False) { s with heap := h', toks := tk } := fun ss q =>
    wpAny_mono (q env A _ X Z he hA F') (fun f s'' ⟨h'', tk'', e, q'⟩ => ⟨h'', tk'', e, q'.tr S⟩) fun _ _ q => q.elim
  cases c with
  | true => rw [if_pos rfl]; exact fin _ (hb rfl)
  | false => rw [if_neg (by decide)]; exact fin _ (he' rfl)
theorem Ex1.assert {t : PySem.Expr} {msg : Option PySem.Expr} {pos : Pos} (ht : Tst C sc σ t true) : Ex1 C sc σ (.Assert t msg pos) (.next σ) := by
  intro env A s X Z he hA F
  exact wpAny_Assert_holds (ht.thenF he hA F fun h' tk F' S => ⟨rfl, h', tk, rfl, F'.toFView, S⟩)

noncomputable def Stored (sc : Scope) (x : PySem.Str) : Bool := sc.names.lookup x == some .local || sc.names.lookup x == some .cell
theorem stored_of {env : Env} {x : PySem.Str} (he : env.scope = sc) (h : Stored sc x = true) : env.kindOf x = some .local ∨ env.kindOf x = some .cell := by
  unfold Stored at h; unfold Env.kindOf; rw [he]; simpa using h

noncomputable def notComp : PySem.Expr → Bool
  | .ListComp .. | .SetComp .. | .DictComp .. => false
  | _ => true
theorem swaps_not {value : PySem.Expr} {x : PySem.Str} {pos : Pos} {line : Nat} {env : Env} (h : notComp value = true) : swapsWith value (some (.Name x pos)) line env = pure false := by
  cases value <;> first | rfl | (cases h)

theorem Ex1.assign {x : PySem.Str} {px pos : Pos} {e : PySem.Expr} {d : D} (h : Ev C sc σ e d) (hx : Stored sc x = true) (hn : notComp e = true := by rfl) : Ex1 C sc σ (.Assign [.Name x px] e pos) (.next (upd σ x d)) := by
  intro env A s X Z he hA F
  refine wpAny_Assign_Name (h.thenF he hA F fun v h' tk F' S r => ?_) (swaps_not hn)
  exact storeName_F F'.toFView (stored_of he hx) r fun h'' tk'' F'' S'' => ⟨h'', tk'', rfl, F'', S.tr S''⟩
end
end Mine
namespace Mine
section
variable {C : Cx} {sc : Scope} {σ : St}

theorem Stp.zone {env : Env} {X Z : Addr → Prop} {h h' : Heap} {σ' : St} (S : Stp env Z h σ h' σ') : ∀ b, Zone env h' X Z σ' b → Zone env h X Z σ b ∨ h.get? b = none := fun b q => by
  rcases q with q | q | q
  · exact .inl (.inl q)
  · exact .inl (.inr (.inl q))
  · exact (S.own b q).imp (fun q => .inr (.inr q)) id
theorem Rep.stp {env : Env} {X Z : Addr → Prop} {h h' : Heap} {σ' : St} {v : Value} {d : D} (S : Stp env Z h σ h' σ') (r : Rep h (Zone env h X Z σ) v d) : Rep h' (Zone env h' X Z σ') v d :=
  r.move (fun b o hb e => S.stay b o (fun q => hb (.inr (.inl q))) (fun q => hb (.inr (.inr q))) e) S.zone
theorem Reps.stp {env : Env} {X Z : Addr → Prop} {h h' : Heap} {σ' : St} {vs : List Value} {ds : List D} (S : Stp env Z h σ h' σ') (r : Reps h (Zone env h X Z σ) vs ds) : Reps h' (Zone env h' X Z σ') vs ds :=
  r.move (fun b o hb e => S.stay b o (fun q => hb (.inr (.inl q))) (fun q => hb (.inr (.inr q))) e) S.zone

/-- storing d into a target -/
noncomputable def Asg (C : Cx) (sc : Scope) (σ : St) (t : PySem.Expr) (d : D) (σ' : St) : Prop :=
  ∀ (env : Env) (A : Around) (s : Shared) (X Z : Addr → Prop) (v : Value), env.scope = sc → AOk C.k A → FView C env s.heap X Z σ → Rep s.heap (Zone env s.heap X Z σ) v d →
    wpAny (model C.prog C.w) A (assign t env v) (fun _ s' => ∃ h' tk, s' = { s with heap := h', toks := tk } ∧ FView C env h' X Z σ' ∧ Stp env Z s.heap σ h' σ') (fun _ _ => False) s

theorem Asg.name {x : PySem.Str} {p : Pos} {d : D} (hx : Stored sc x = true) : Asg C sc σ (.Name x p) d (upd σ x d) := by
  intro env A s X Z v he hA F r
  exact wpAny_assign_Name (storeName_F F (stored_of he hx) r fun h' tk F' S => ⟨h', tk, rfl, F', S⟩)

noncomputable def updAll (σ : St) : List (PySem.Str × Pos) → List D → St
  | (x, _) :: ns, d :: ds => updAll (upd σ x d) ns ds
  | _, _ => σ
noncomputable def tgts (ns : List (PySem.Str × Pos)) : List PySem.Expr := ns.map fun p => .Name p.1 p.2

theorem inOrder {env : Env} {A : Around} {X Z : Addr → Prop} (he : env.scope = sc) (hA : AOk C.k A) : ∀ (ns : List (PySem.Str × Pos)) (vs : List Value) (ds : List D) (σ : St) (s : Shared), (∀ p ∈ ns, Stored sc p.1 = true) → ns.length = ds.length →
    FView C env s.heap X Z σ → Reps s.heap (Zone env s.heap X Z σ) vs ds →
    wpAny (model C.prog C.w) A (assignInOrder ((assignEach (tgts ns) env).map (·.2)) vs) (fun _ s' => ∃ h' tk, s' = { s with heap := h', toks := tk } ∧ FView C env h' X Z (updAll σ ns ds) ∧ Stp env Z s.heap σ h' (updAll σ ns ds)) (fun _ _ => False) s
  | [], vs, ds, σ, s, _, hl, F, r => by
    cases ds with
    | cons d ds => simp at hl
    | nil => cases r; exact wpAny_pure ⟨s.heap, s.toks, rfl, F, stp_rfl⟩
  | (x, p) :: ns, vs, ds, σ, s, hx, hl, F, r => by
    cases ds with
    | nil => simp at hl
    | cons d ds =>
      cases r with | cons r0 rn =>
      show wpAny _ A (do holding _ (assign (.Name x p) env _); assignInOrder ((assignEach (tgts ns) env).map (·.2)) _) _ _ s
      refine wpAny_bind (wpAny_holding (wpAny_mono (Asg.name (C := C) (hx (x, p) List.mem_cons_self) env A s X Z _ he hA F r0) (fun _ s' q => ?_) fun _ _ q => q.elim))
      obtain ⟨h', tk, rfl, F', S'⟩ := q
      refine wpAny_mono (inOrder he hA ns _ ds (upd σ x d) _ (fun q hq => hx q (List.mem_cons_of_mem _ hq)) (by simpa using hl) F' (rn.stp S')) (fun _ s'' q => ?_) fun _ _ q => q.elim
      obtain ⟨h'', tk'', rfl, F'', S''⟩ := q
      exact ⟨h'', tk'', rfl, F'', S'.tr S''⟩

/-- items drawn one by one -/
theorem draw_walk {prog : Program} {w : World} {A : Around} {E : Value → Shared → Prop} {I : Addr} {fp : List Addr} {n : Nat} {P : Nat → Value → Prop} {S : Nat → Heap → Prop} (W : Walks prog w A I fp [I] n P S) :
    ∀ (k i : Nat) (s : Shared) (Q : List Value → Shared → Prop), i + k ≤ n → S i s.heap →
      (∀ vs h' tk, vs.length = k → (∀ j v, vs[j]? = some v → P (i + j) v) → S (i + k) h' → (∀ b o, b ≠ I → s.heap.get? b = some o → h'.get? b = some o) → Q vs { s with heap := h', toks := tk }) → wpAny (model prog w) A (draw (.ref I) k) Q E s
  | 0, i, s, Q, _, hS, hQ => wpAny_pure (hQ [] s.heap s.toks rfl (fun j v e => by simp at e) hS fun _ _ _ e => e)
  | k + 1, i, s, Q, hle, hS, hQ => by
    show wpAny _ _ (pyNext (.ref I) >>= _) Q E s
    refine wpAny_bind (W.item i s _ _ (by omega) hS fun v h1 tk1 hP hS1 hk1 => ?_)
    refine wpAny_bind (wpAny_holding (draw_walk W k (i + 1) _ _ (by omega) hS1 fun vs h2 tk2 hl hPs hS2 hk2 => wpAny_pure ?_))
    refine hQ (v :: vs) h2 tk2 (by simp [hl]) (fun j u e => ?_) (by rw [show i + (k + 1) = i + 1 + k by omega]; exact hS2) fun b o hb e => hk2 b o hb (hk1 b o (fun hm => hb (List.mem_singleton.mp hm)) e)
    cases j with
    | zero => simp at e; subst e; exact hP
    | succ j => rw [show i + (j + 1) = i + 1 + j by omega]; exact hPs j u (by simpa using e)

theorem reps_of_items {h : Heap} {Z : Addr → Prop} : ∀ {vs : List Value} {ds : List D}, vs.length = ds.length → (∀ (j : Nat) (v : Value), vs[j]? = some v → ∃ d, ds[j]? = some d ∧ Rep h Z v d) → Reps h Z vs ds
  | [], [], _, _ => .nil
  | [], _ :: _, hl, _ => by simp at hl
  | _ :: _, [], hl, _ => by simp at hl
  | v :: vs, d :: ds, hl, hx => by
    obtain ⟨d', e, r⟩ := hx 0 v rfl
    simp at e; subst e
    exact .cons r (reps_of_items (by simpa using hl) fun j u e => by simpa using hx (j + 1) u (by simpa using e))

inductive Seq : D → List D → Prop
  | lst (ds : List D) : Seq (.lst ds) ds
  | tup (ds : List D) : Seq (.tup ds) ds
theorem Seq.src {d : D} {ds : List D} (h : Seq d ds) : Src d ds := by cases h <;> constructor

theorem unpackItems_any {A : Around} {s : Shared} {Z : Addr → Prop} {v : Value} {d : D} {ds : List D} {Q : List Value → Shared → Prop} {E : Value → Shared → Prop} (hh : A.handled = none) (r : Rep s.heap Z v d) (hs : Seq d ds) (hl : ds.length ≤ 2 ^ 24)
    (h : ∀ vs h' tk, Reps h' Z vs ds → (∀ b o, s.heap.get? b = some o → h'.get? b = some o) → Q vs { s with heap := h', toks := tk }) : wpAny (model C.prog C.w) A (unpackItems v ds.length none) Q E s := by
  have hiter : ∀ (Q : Bool → Shared → Prop), Q false s → wpAny (model C.prog C.w) A (notIterableAtAll v) Q E s := fun Q hq => by
    unfold notIterableAtAll
    cases hs with
    | lst ds => cases r with | lst hn hL hr => exact wpAny_bind (wpAny_specialOf hL.isList.typeIs slot_list_iter.lookup (wpAny_pure hq))
    | tup ds => cases r with | tup hn hL hr => exact wpAny_bind (wpAny_specialOf (PySem.Heap.IsTuple.typeIs hL) F.slot_tuple_iter.lookup (wpAny_pure hq))
  unfold unpackItems
  refine wpAny_bind (hiter _ ?_)
  simp only [Bool.false_eq_true, if_false]
  refine wpAny_bind (wpAny_holding (iter_src hh r hs.src hl fun I fp P S h1 tk1 k1 it => ?_))
  refine wpAny_bind (wpAny_holding (draw_walk it.walks ds.length 0 _ _ (by omega) it.start fun vs h2 tk2 hlen hP hS2 hk2 => ?_))
  rw [if_neg (by omega)]
  refine wpAny_bind (wpAny_holding (it.walks.done _ _ _ (by rw [Nat.zero_add] at hS2; exact hS2) fun h3 tk3 hk3 => ?_))
  simp only [Option.isSome_none, Bool.false_eq_true, if_false]
  have hold : ∀ b o, s.heap.get? b = some o → h3.get? b = some o := fun b o e => by
    have hb : b ≠ I := fun q => by rw [q, it.new] at e; cases e
    exact hk3 b o (fun hm => hb (List.mem_singleton.mp hm)) (hk2 b o hb (k1 b o e))
  refine wpAny_pure (h vs h3 tk3 (reps_of_items hlen fun j u e => ?_) hold)
  obtain ⟨d', e', r'⟩ := it.item j u (by have := hP j u e; rwa [Nat.zero_add] at this)
  exact ⟨d', e', r'.keeps hold⟩

theorem findStar (ns : List (PySem.Str × Pos)) (env : Env) : (assignEach (tgts ns) env).findIdx? (·.1) = none ∧ (assignEach (tgts ns) env).length = ns.length := by
  induction ns with
  | nil => exact ⟨rfl, rfl⟩
  | cons p ns ih =>
    constructor
    · show ((false, _) :: assignEach (tgts ns) env).findIdx? (·.1) = none
      rw [List.findIdx?_cons]; simp [ih.1]
    · show ((false, _) :: assignEach (tgts ns) env).length = _
      simp [ih.2]

theorem Asg.unpack {ns : List (PySem.Str × Pos)} {k : Nat} {pos : Pos} {d : D} {ds : List D} (hs : Seq d ds) (hx : ∀ p ∈ ns, Stored sc p.1 = true) (hl : ns.length = ds.length) (hsz : ds.length ≤ 2 ^ 24) : Asg C sc σ (.Tuple (tgts ns) k pos) d (updAll σ ns ds) := by
  intro env A s X Z v he hA F r
  rw [arm_assign_Tuple]
  refine wpAny_bind (wpAny_standAt ?_)
  unfold PySem.unpack
  rw [(findStar ns env).1, (findStar ns env).2, hl]
  refine wpAny_bind (wpAny_holding (unpackItems_any hA.hh r hs hsz fun vs h' tk rs hk => ?_))
  obtain ⟨F', S', zz⟩ := F.keeps hk
  refine wpAny_mono (inOrder he hA ns vs ds σ { s with heap := h', toks := tk } hx hl F' (rs.weaken fun b q => (zz b).mp q)) (fun _ s'' q => ?_) fun _ _ q => q.elim
  obtain ⟨h'', tk'', rfl, F'', S''⟩ := q
  exact ⟨h'', tk'', rfl, F'', S'.tr S''⟩

theorem Ex1.unpack {ns : List (PySem.Str × Pos)} {k : Nat} {tp pos : Pos} {e : PySem.Expr} {d : D} {ds : List D} (h : Ev C sc σ e d) (hs : Seq d ds) (hx : ∀ p ∈ ns, Stored sc p.1 = true) (hl : ns.length = ds.length) (hsz : ds.length ≤ 2 ^ 24)
    (hsw : ∀ env, swapsWithSole [.Tuple (tgts ns) k tp] e pos.line env = pure false := by intro _; rfl)
    (hst : ∀ env, swappedStores [.Tuple (tgts ns) k tp] e env = pure none := by intro _; rfl) : Ex1 C sc σ (.Assign [.Tuple (tgts ns) k tp] e pos) (.next (updAll σ ns ds)) := by
  intro env A s X Z he hA F
  refine Assign_Tuple (h.thenF he hA F fun v h' tk F' S r => ?_) (hsw env) (hst env)
  refine wpAny_mono (Asg.unpack hs hx hl hsz env A _ X Z v he hA F'.toFView r) (fun _ s'' q => ?_) fun _ _ q => q.elim
  obtain ⟨h'', tk'', rfl, F'', S''⟩ := q
  exact ⟨h'', tk'', rfl, F'', S.tr S''⟩
end
end Mine
namespace Mine
section
variable {C : Cx} {sc : Scope} {σ : St}

noncomputable def Iop (C : Cx) (op : Operator) (d1 d2 d : D) : Prop :=
  ∀ (A : Around) (s : Shared) (Z : Addr → Prop) (v1 v2 : Value), AOk C.k A → Rep s.heap Z v1 d1 → Rep s.heap Z v2 d2 →
    wpAny (model C.prog C.w) A (inplaceOp op v1 v2) (fun v s' => Kp s s' ∧ Rep s'.heap Z v d) (fun _ _ => False) s
theorem Iop.add_int {a b : Int} : Iop C .Add (.int a) (.int b) (.int (a + b)) := by
  intro A s Z v1 v2 hA r1 r2; cases r1; cases r2; exact AutoIntOps.iadd_0 ⟨.tok s _, .int _ _⟩
theorem Iop.sub_int {a b : Int} : Iop C .Sub (.int a) (.int b) (.int (a - b)) := by
  intro A s Z v1 v2 hA r1 r2; cases r1; cases r2; exact AutoIntOps.isub_0 ⟨.tok s _, .int _ _⟩
theorem Iop.mul_int {a b : Int} (h : a.natAbs < 2 ^ 64 ∨ b.natAbs < 2 ^ 64) : Iop C .Mult (.int a) (.int b) (.int (a * b)) := by
  intro A s Z v1 v2 hA r1 r2; cases r1; cases r2
  have bits : ∀ x : Int, x.natAbs < 2 ^ 64 → Builtin.Int.intBits x ≤ 64 := fun x hx => intBits_le_64 (by omega) (by omega)
  exact AutoIntOps.imul_0 ⟨.tok s _, .int _ _⟩ (h.elim (fun h => .of_left (bits _ h)) fun h => .of_right (bits _ h))
theorem Iop.xor_int {a b : Int} : Iop C .BitXor (.int a) (.int b) (.int (Builtin.bitXor a b)) := by
  intro A s Z v1 v2 hA r1 r2; cases r1; cases r2; exact PyProof.Rows.ixor_int ⟨.tok s _, .int _ _⟩

theorem Ex1.aug {x : PySem.Str} {px pos : Pos} {op : Operator} {e : PySem.Expr} {d1 d2 d : D} (hx : σ x = some d1) (h : Ev C sc σ e d2) (ho : Iop C op d1 d2 d) (hs : Stored sc x = true) (hd : d1.isOwn = false := by rfl) (hn : (x == ("__classdict__" : PySem.Str)) = false := by decide) :
    Ex1 C sc σ (.AugAssign (.Name x px) op e pos) (.next (upd σ x d)) := by
  intro env A s X Z he hA F
  obtain ⟨v, hv, hr⟩ := F.view.var x d1 hx
  refine wpAny_AugAssign_Name (loadName_sees F.view.kind hv ?_ hn)
  refine h.thenF he hA F fun v2 h' tk F' S r2 => ?_
  refine wpAny_mono (ho A { s with heap := h', toks := tk } (Zone env h' X Z σ) v v2 hA ((hr.to hd).stp S) r2) (fun u s'' q => ?_) fun _ _ q => q.elim
  obtain ⟨k, ru⟩ := q
  obtain ⟨h'', tk'', rfl⟩ := k.eq
  obtain ⟨F'', S'', zz⟩ := F'.toFView.keeps k.old
  exact storeName_F F'' (stored_of he hs) (ru.weaken fun b q => (zz b).mp q) fun h3 tk3 F3 S3 => ⟨h3, tk3, rfl, F3, (S.tr S'').tr S3⟩

/-- the iterator is not ours to change -/
theorem FView.addX {env : Env} {h h' : Heap} {X Z : Addr → Prop} {I : Addr} (F : FView C env h X Z σ) (hk : ∀ b o, h.get? b = some o → h'.get? b = some o) (hI : h.get? I = none) (hex : ∃ o, h'.get? I = some o) :
    FView C env h' (fun a => X a ∨ a = I) Z σ ∧ Stp env Z h σ h' σ := by
  obtain ⟨F', S', zz⟩ := F.keeps hk
  have zsub : ∀ b, Zone env h' (fun a => X a ∨ a = I) Z σ b → Zone env h X Z σ b ∨ b = I := fun b q => by
    rcases q with (q | q) | q | q
    · exact .inl (.inl q)
    · exact .inr q
    · exact .inl (.inr (.inl q))
    · exact .inl ((zz b).mp (.inr (.inr q)))
  refine ⟨⟨⟨F'.view.base, F'.view.keep, F'.view.kind, F'.view.glb, F'.view.bui, fun b q => ?_, fun x d hx => ?_⟩, F'.loc, F'.zloc, F'.cel, F'.celk, F'.apart, F'.znew, fun a q => ?_, F'.ownap⟩, S'⟩
  · rcases zsub b q with q | q
    · obtain ⟨o, e⟩ := F.view.zin b q; exact ⟨o, hk b o e⟩
    · rw [q]; exact hex
  · obtain ⟨v, hv, r⟩ := F.view.var x d hx
    refine ⟨v, hv.keeps hk, r.move (fun b o _ e => hk b o e) (fun b q => (zsub b q).imp id fun q => by rw [q]; exact hI) fun _ _ _ _ o e => hk _ o e⟩
  · obtain ⟨h1, h2, h3⟩ := F'.ownz a q
    refine ⟨fun q' => q'.elim h1 fun q' => ?_, h2, h3⟩
    have : Zone env h X Z σ a := (zz a).mp (.inr (.inr q))
    obtain ⟨o, e⟩ := F.view.zin a this
    rw [q', hI] at e; cases e
theorem FView.dropX {env : Env} {h : Heap} {X X' Z : Addr → Prop} (F : FView C env h X' Z σ) (hX : ∀ a, X a → X' a) : FView C env h X Z σ := by
  have zsub : ∀ b, Zone env h X Z σ b → Zone env h X' Z σ b := fun b q => q.imp (hX b) id
  exact ⟨⟨F.view.base, F.view.keep, F.view.kind, F.view.glb, F.view.bui, fun b q => F.view.zin b (zsub b q), fun x d hx => by
      obtain ⟨v, hv, r⟩ := F.view.var x d hx
      exact ⟨v, hv, r.move (fun _ _ _ e => e) (fun b q => .inl (zsub b q)) fun _ _ _ _ _ e => e⟩⟩, F.loc, F.zloc, F.cel, F.celk, F.apart, F.znew, fun a q => let ⟨h1, h2, h3⟩ := F.ownz a q; ⟨fun q => h1 (hX a q), h2, h3⟩, F.ownap⟩

noncomputable def plainTarget : PySem.Expr → Bool
  | .Name .. | .Tuple .. => true
  | _ => false

/-- how a loop ends at turn n: by the list's end, by a break, by a return -/
inductive Ends (C : Cx) (sc : Scope) (target : PySem.Expr) (body orelse : List Stmt) (its : List D) (σs : Nat → St) (n : Nat) : Out → Prop
  | all {o : Out} : n = its.length → Ex C sc (σs n) orelse o → Ends C sc target body orelse its σs n o
  | brk {d : D} {σt σ' : St} : its[n]? = some d → Asg C sc (σs n) target d σt → Ex C sc σt body (.brk σ') → Ends C sc target body orelse its σs n (.next σ')
  | ret {d r : D} {σt : St} : its[n]? = some d → Asg C sc (σs n) target d σt → Ex C sc σt body (.ret r) → Ends C sc target body orelse its σs n (.ret r)

theorem letGo_iter {prog : Program} {w : World} {A : Around} {s : Shared} {target : PySem.Expr} {I : Addr} {v : Value} {Q : Unit → Shared → Prop} {E : Value → Shared → Prop} (hI : ∃ o, s.heap.get? I = some o ∧ (o.cls = .type "list_iterator" ∨ o.cls = .type "tuple_iterator" ∨ o.cls = .type "range_iterator")) (h : Q () s) :
    wpAny (model prog w) A (letOwnedTupleGo target (.ref I) v) Q E s := by
  obtain ⟨o, e, hc⟩ := hI
  have key : ∀ (T : Addr), wpAny (model prog w) A (do
      let o ← load I
      match o.cls, o.data with
      | .type n, .fields vs =>
        if ["enumerate", "zip", "dict_itemiterator", "dict_reverseitemiterator", "odict_iterator", "itertools.zip_longest", "itertools.pairwise"].contains n && vs[0]? == some (rawInt T) then
          rule "for.unpacks-the-owned-tuple"
          updateField I 0 .none
      | _, _ => pure () : Sem Unit) Q E s := fun T => by
    refine wpAny_bind (wpAny_load e ?_)
    obtain ⟨cls, dd, data, sl⟩ := o
    rcases hc with hc | hc | hc <;> (simp only at hc; subst hc; cases data <;> first | exact wpAny_pure h | (rw [if_neg (by simp)]; exact wpAny_pure h))
  cases target with
  | Tuple elts k pos =>
    cases v with
    | ref T => exact key T
    | _ => exact wpAny_pure h
  | List elts pos =>
    cases v with
    | ref T => exact key T
    | _ => exact wpAny_pure h
  | _ => exact wpAny_pure h


/-- the iterator moves on -/
theorem FView.item {env : Env} {h h' : Heap} {X Y Z : Addr → Prop} {I : Addr} (F : FView C env h X Z σ) (hY : ∀ a, Y a → X a) (hXI : X I) (hZI : ¬ Z I) (hI0 : C.h₀.get? I = none) (hk : ∀ b o, b ≠ I → h.get? b = some o → h'.get? b = some o) (hex : Y I → ∃ o, h'.get? I = some o) :
    FView C env h' Y Z σ ∧ (∀ a, Own env h' σ a ↔ Own env h σ a) := by
  have hLI : env.locals ≠ I := fun q => hZI (q ▸ F.zloc)
  have hcI : ∀ x c, env.cells.lookup x = some c → c ≠ I := fun x c e q => hZI (q ▸ (F.cel x c e).1)
  have sees : ∀ x v, Sees env h x v → Sees env h' x v := fun x v r => r.imp (fun ⟨a, m, b, c⟩ => ⟨a, m, b.at' fun o e => hk _ o hLI e, c⟩) fun ⟨a, c, b, o, e, d⟩ => ⟨a, c, b, o, hk _ o (hcI x c b) e, d⟩
  have seesEq : ∀ x d v, σ x = some d → Sees env h' x v → Sees env h x v := fun x d v hx hs => by
    obtain ⟨u, hu, _⟩ := F.view.var x d hx
    have := (sees x u hu).fun hs; subst this; exact hu
  have ownEq : ∀ a, Own env h' σ a ↔ Own env h σ a := fun a => ⟨fun ⟨x, ds, e, hs⟩ => ⟨x, ds, e, seesEq x _ _ e hs⟩, fun ⟨x, ds, e, hs⟩ => ⟨x, ds, e, sees x _ hs⟩⟩
  have zsub : ∀ b, Zone env h' Y Z σ b → Zone env h X Z σ b := fun b q => q.imp (hY b) (Or.imp id (ownEq b).mp)
  refine ⟨⟨⟨F.view.base, fun b o e => hk b o (fun q => by rw [q, hI0] at e; cases e) (F.view.keep b o e), F.view.kind, F.view.glb, F.view.bui, fun b q => ?_, fun x d hx => ?_⟩, let ⟨m, e⟩ := F.loc; ⟨m, e.at' fun o e => hk _ o hLI e⟩, F.zloc, fun x c e => let ⟨a, v, o, b, d⟩ := F.cel x c e; ⟨a, v, o, hk _ o (hcI x c e) b, d⟩, F.celk, F.apart, F.znew,
    fun a q => let ⟨q1, q2, q3⟩ := F.ownz a ((ownEq a).mp q); ⟨fun q => q1 (hY a q), q2, q3⟩, fun x y ds es a hx hy sx sy => F.ownap x y ds es a hx hy (seesEq x _ _ hx sx) (seesEq y _ _ hy sy)⟩, ownEq⟩
  · by_cases hb : b = I
    · rw [hb] at q ⊢
      rcases q with q | q | q
      · exact hex q
      · exact absurd q hZI
      · exact absurd hXI (F.ownz I ((ownEq I).mp q)).1
    · obtain ⟨o, e⟩ := F.view.zin b (zsub b q); exact ⟨o, hk b o hb e⟩
  · obtain ⟨v, hv, r⟩ := F.view.var x d hx
    refine ⟨v, sees x v hv, r.move (fun b o hb e => hk b o (fun q => hb (by rw [q]; exact .inl hXI)) e) (fun b q => .inl (zsub b q)) fun l a hd hva o e => ?_⟩
    subst hd; subst hva
    exact hk a o (fun q => (F.ownz a ⟨x, l, hx, hv⟩).1 (by rw [q]; exact hXI)) e

theorem Ex1.forN {target iter : PySem.Expr} {body orelse : List Stmt} {pos : Pos} {src : D} {its : List D} (σs : Nat → St) (n : Nat) {o : Out} (hi : Ev C sc σ iter src) (hsrc : Src src its) (hlen : its.length ≤ 2 ^ 24) (h0 : σs 0 = σ) (hn : n ≤ its.length)
    (hbody : ∀ i d, i < n → its[i]? = some d → ∃ σt, Asg C sc (σs i) target d σt ∧ Ex C sc σt body (.next (σs (i + 1)))) (hend : Ends C sc target body orelse its σs n o) (hs : notSet iter = true := by rfl) : Ex1 C sc σ (.For target iter body orelse pos) o := by
  intro env A s X Z he hA F
  refine wpAny_For (hi.thenF he hA F fun v h1 tk1 F1 S1 r1 => ?_) (fun _ => folded_not hs)
  refine toks_in F1.tk (iter_src hA.hh r1 hsrc hlen fun I fp P S h2 tk2 k2 it p2 => ?_)
  dsimp only at k2 it ⊢
  obtain ⟨F2, S2⟩ := F1.toFView.addX k2 it.new it.here
  have hIZ : ¬ Z I := fun q => by obtain ⟨o, e⟩ := F1.view.zin I (.inr (.inl q)); have := it.new; rw [e] at this; cases this
  have hI0 : C.h₀.get? I = none := by
    cases e : C.h₀.get? I with
    | none => rfl
    | some o => have := F1.view.keep I o e; rw [it.new] at this; cases this
  let X' : Addr → Prop := fun a => X a ∨ a = I
  -- what a turn keeps of the iterator's own
  have keepS : ∀ (σi σ' : St) (h4 h5 : Heap) (i : Nat), S i h4 → FView C env h4 X' Z σi → Stp env Z h1 σ h4 σi → Stp env Z h4 σi h5 σ' → S i h5 := fun σi σ' h4 h5 i hS F4 S4 S5 => by
    refine it.walks.frame _ _ _ hS fun b hb o e => ?_
    by_cases hbI : b = I
    · exact S5.stay b o (by rw [hbI]; exact hIZ) (fun q => (F4.ownz b q).1 (.inr hbI)) e
    · have hz := it.fpz b hb hbI
      refine S5.stay b o (fun q => hz (.inr (.inl q))) (fun q => ?_) e
      rcases S4.own b q with q | q
      · exact hz (.inr (.inr q))
      · obtain ⟨o', e'⟩ := it.fpe b hb hbI; rw [e'] at q; cases q
  -- the turn itself
  have turn : ∀ (i : Nat) (d : D) (σt : St) (h' : Heap) (tk' : Nat) (ptk : 0 < tk') (oo : Out) (R : Flow → Shared → Prop) (E : Value → Shared → Prop) (N : Option Value → Shared → Prop), its[i]? = some d → Asg C sc (σs i) target d σt → Ex C sc σt body oo → S i h' → FView C env h' X' Z (σs i) → Stp env Z h1 σ h' (σs i) →
      (∀ f h5 tk5 h4, 0 < tk5 → OutOk C env h4 X' Z (σs i) h5 f oo → FView C env h4 X' Z (σs i) → S (i + 1) h4 → Stp env Z h1 σ h4 (σs i) → R f { s with heap := h5, toks := tk5 }) →
      (∀ v s₁, wpAny (model C.prog C.w) A (letOwnedTupleGo target (.ref I) v) (fun _ s₁' => wpAny (model C.prog C.w) A (PySem.assign target env v) (fun _ s₂ => wpAny (model C.prog C.w) A (execs body env) R E s₂) E s₁') E s₁ → N (some v) s₁) →
      wpAny (model C.prog C.w) A (pyNext (.ref I)) N E { s with heap := h', toks := tk' } := by
    intro i d σt h' tk' ptk oo R E N hd hasg hex hS Fi Si hR hN
    have hlt : i < its.length := by
      rcases Nat.lt_or_ge i its.length with q | q
      · exact q
      · rw [List.getElem?_eq_none q] at hd; cases hd
    refine toks_in ptk (it.walks.item i _ _ _ hlt hS fun v h4 tk4 hP hS4 hk4 p4 => hN v _ ?_)
    have hk4' : ∀ b o, b ≠ I → h'.get? b = some o → h4.get? b = some o := fun b o hb e => hk4 b o (fun hm => hb (List.mem_singleton.mp hm)) e
    obtain ⟨oI, eI, cI⟩ := it.alive _ _ hS4
    obtain ⟨F4, own4⟩ := Fi.item (Y := X') (I := I) (fun _ q => q) (.inr rfl) hIZ hI0 hk4' fun _ => ⟨oI, eI⟩
    have S4 : Stp env Z h1 σ h4 (σs i) :=
      ⟨fun b o hz ho e => hk4' b o (fun q => by rw [q, it.new] at e; cases e) (Si.stay b o hz ho e), fun b ⟨o, e⟩ => by
        have hb : b ≠ I := fun q => by rw [q, it.new] at e; cases e
        obtain ⟨o', e'⟩ := Si.live b ⟨o, e⟩
        exact ⟨o', hk4' b o' hb e'⟩, fun a q => Si.own a ((own4 a).mp q)⟩
    refine letGo_iter ⟨oI, eI, cI⟩ ?_
    obtain ⟨d', hd', rep⟩ := it.item i v hP
    rw [hd] at hd'; cases hd'
    have rep4 : Rep h4 (Zone env h4 X' Z (σs i)) v d := rep.move (fun b o hb e => S4.stay b o (fun q => hb (.inr (.inl q))) (fun q => hb (.inr (.inr q))) e) fun b q => by
      rcases q with (q | q) | q | q
      · exact .inl (.inl q)
      · exact .inr (by rw [q]; exact it.new)
      · exact .inl (.inr (.inl q))
      · exact (S4.own b q).imp (fun q => .inr (.inr q)) id
    refine toks_in (s := { s with heap := h4, toks := tk4 }) p4 (wpAny_mono (hasg env A { s with heap := h4, toks := tk4 } X' Z v he hA F4 rep4) (fun _ s5 q5 p5 => ?_) fun _ _ q => q.elim)
    obtain ⟨h5, tk5, rfl, F5, S5⟩ := q5
    refine toks_in (s := { s with heap := h5, toks := tk5 }) p5 (wpAny_mono (hex env A _ X' Z he hA ⟨F5, p5⟩) (fun f s6 q6 p6 => ?_) fun _ _ q => q.elim)
    obtain ⟨h6, tk6, rfl, q6⟩ := q6
    exact hR f h6 tk6 h4 p6 (OutOk.tr S5 q6) F4 hS4 S4
  have hX : ∀ a, X a → X' a := fun a q => .inl q
  refine codeAny_forLoop_any
    (fun k s' => ∃ i h' tk', s' = { s with heap := h', toks := tk' } ∧ 0 < tk' ∧ i ≤ n ∧ k = n + 1 - i ∧ S i h' ∧ FView C env h' X' Z (σs i) ∧ Stp env Z h1 σ h' (σs i)) ?_ (n + 1)
    ⟨0, h2, tk2, rfl, p2, Nat.zero_le _, rfl, it.start, by rw [h0]; exact F2, by rw [h0]; exact S2⟩
  rintro k s' ⟨i, h', tk', rfl, ptk, hin, rfl, hS, Fi, Si⟩
  by_cases hlt : i < n
  · have hil : i < its.length := Nat.lt_of_lt_of_le hlt hn
    obtain ⟨σt, hasg, hex⟩ := hbody i its[i] hlt (by simp [hil])
    refine turn i its[i] σt h' tk' ptk _ _ _ _ (by simp [hil]) hasg hex hS Fi Si (fun f h5 tk5 h4 p5 q F4 hS4 S4 => ?_) fun v s₁ q => q
    cases f with
    | next => exact ⟨n + 1 - (i + 1), by omega, i + 1, h5, tk5, rfl, p5, hlt, rfl, keepS _ _ _ _ _ hS4 F4 S4 q.2, q.1, S4.tr q.2⟩
    | _ => exact q.elim
  · have hie : i = n := Nat.le_antisymm hin (Nat.not_lt.mp hlt)
    subst hie
    cases hend with
    | all hl hor =>
      refine toks_in ptk (it.walks.done _ _ _ (hl ▸ hS) fun h4 tk4 hk4 p4 => ?_)
      have hk4' : ∀ b o, b ≠ I → h'.get? b = some o → h4.get? b = some o := fun b o hb e => hk4 b o (fun hm => hb (List.mem_singleton.mp hm)) e
      obtain ⟨F4, own4⟩ := Fi.item (Y := X) (I := I) (fun _ q => .inl q) (.inr rfl) hIZ hI0 hk4' fun q => by
        obtain ⟨o, e⟩ := F1.view.zin I (.inl q); have := it.new; rw [e] at this; cases this
      have S4 : Stp env Z h1 σ h4 (σs i) :=
        ⟨fun b o hz ho e => hk4' b o (fun q => by rw [q, it.new] at e; cases e) (Si.stay b o hz ho e), fun b ⟨o, e⟩ => by
          have hb : b ≠ I := fun q => by rw [q, it.new] at e; cases e
          obtain ⟨o', e'⟩ := Si.live b ⟨o, e⟩
          exact ⟨o', hk4' b o' hb e'⟩, fun a q => Si.own a ((own4 a).mp q)⟩
      refine wpAny_mono (hor env A { s with heap := h4, toks := tk4 } X Z he hA ⟨F4, p4⟩) (fun f s5 q5 => ?_) fun _ _ q => q.elim
      obtain ⟨h5, tk5, rfl, q5⟩ := q5
      exact ⟨h5, tk5, rfl, OutOk.tr (S1.tr S4) q5⟩
    | brk hd hasg hex =>
      refine turn i _ _ h' tk' ptk _ _ _ _ hd hasg hex hS Fi Si (fun f h5 tk5 h4 p5 q F4 hS4 S4 => ?_) fun v s₁ q => q
      cases f with
      | brk => exact ⟨h5, tk5, rfl, q.1.dropX hX, (S1.tr S4).tr q.2⟩
      | _ => exact q.elim
    | ret hd hasg hex =>
      refine turn i _ _ h' tk' ptk _ _ _ _ hd hasg hex hS Fi Si (fun f h5 tk5 h4 p5 q F4 hS4 S4 => ?_) fun v s₁ q => q
      cases f with
      | ret u =>
        have := OutOk.tr (C := C) (X := X') (S1.tr S4) q
        exact ⟨h5, tk5, rfl, this.1.weaken fun b q => q.imp (hX b) id, this.2⟩
      | _ => exact q.elim
end
end Mine
namespace Mine
section
variable {C : Cx} {sc : Scope} {σ : St}

theorem Ex1.for {target iter : PySem.Expr} {body : List Stmt} {pos : Pos} {src : D} {its : List D} (σs : Nat → St) (hi : Ev C sc σ iter src) (hsrc : Src src its) (hlen : its.length ≤ 2 ^ 24) (h0 : σs 0 = σ)
    (hbody : ∀ i d, its[i]? = some d → ∃ σt, Asg C sc (σs i) target d σt ∧ Ex C sc σt body (.next (σs (i + 1)))) (hs : notSet iter = true := by rfl) : Ex1 C sc σ (.For target iter body [] pos) (.next (σs its.length)) :=
  Ex1.forN σs its.length hi hsrc hlen h0 (Nat.le_refl _) (fun i d _ hd => hbody i d hd) (.all rfl Ex.nil) hs

/-- whether the store comes ahead of the letting go -/
noncomputable def swapB (sc scope : Scope) (x : PySem.Str) (px vpos : Pos) : Bool :=
  sc.kind == .function && sc.names.lookup x == some .local && px.line == vpos.line && !(scope.names.any fun (n, k) => n == x && (k == .local || k == .cell))
theorem swaps_comp {env : Env} {elt : PySem.Expr} {gens : List Comprehension} {scope : Scope} {vpos px : Pos} {x : PySem.Str} {line : Nat} (he : env.scope = sc) (hk : env.scope.kind = .function) :
    swapsWith (.ListComp elt gens scope vpos) (some (.Name x px)) line env = pure (swapB sc scope x px vpos) := by
  unfold swapsWith swapB Env.kindOf Env.blockKind
  rw [← he, hk]; rfl

theorem Ex1.assignComp {x y : PySem.Str} {px py vpos pos : Pos} {elt iter : PySem.Expr} {ifs : List PySem.Expr} {scope : Scope} {src : D} {its : List D} (f : Nat → D) (p : Nat → Bool) (hok : compOk sc scope x = true) (hσ : freeOk σ scope = true)
    (hi : Ev C sc σ iter src) (hsrc : Src src its) (hlen : its.length ≤ 2 ^ 24)
    (htest : ∀ i d, its[i]? = some d → Tsts C (relab scope sc) (inner scope σ x d) ifs (p i)) (helt : ∀ i d, its[i]? = some d → p i = true → Ev C (relab scope sc) (inner scope σ x d) elt (f i)) (hy : Stored sc y = true) (hs : notSet iter = true := by rfl) :
    Ex1 C sc σ (.Assign [.Name y py] (.ListComp elt [⟨.Name x px, iter, ifs, 0⟩] scope vpos) pos) (.next (upd σ y (.lst (((List.range its.length).filter p).map f)))) := by
  intro env A s X Z he hA F
  cases hsw : swapB sc scope y py vpos with
  | false =>
    refine wpAny_Assign_Name ((Ev.compIf f p hok hσ hi hsrc hlen htest helt hs).thenF he hA F fun v h' tk F' S r => ?_) (by rw [swaps_comp he F.view.kind, hsw])
    exact storeName_F F'.toFView (stored_of he hy) r fun h'' tk'' F'' S'' => ⟨h'', tk'', rfl, F'', S.tr S''⟩
  | true =>
    rw [exec_Assign_Name_used _ _ _ _ (by rw [swaps_comp he F.view.kind, hsw])]
    refine wpAny_bind (wpAny_standAt (wpAny_bind ?_))
    show wpAny _ A (do let _ ← comprehension (.ListComp elt [⟨.Name x px, iter, ifs, 0⟩] scope vpos) scope env _ (newList []) false (eval iter env) (some (PySem.assign (.Name y py) env))) _ _ s
    refine wpAny_bind (wpAny_mono (comp_run (use := some (PySem.assign (.Name y py) env)) (Q := fun _ s' => ∃ h' tk, s' = { s with heap := h', toks := tk } ∧ OutOk C env s.heap X Z σ h' .next (.next (upd σ y (.lst (((List.range its.length).filter p).map f))))) he hA ⟨F.view, F.tk⟩ hok (freeOk_mem hσ) hi hsrc hlen htest helt (fun _ => folded_not hs) fun D₁ L h' tk m' hD hL hDL hns hk hr => ?_)
      (fun _ s' hq => wpAny_pure (wpAny_pure hq)) fun _ _ q => q.elim)
    obtain ⟨F', S', zz⟩ := F.toFView.keeps hk
    have hrep : Rep h' (Zone env h' X Z σ) (.ref D₁) (.lst (((List.range its.length).filter p).map f)) := hr.weaken fun b q => .inl ((zz b).mp q)
    -- L is new: nothing sees it
    have hL2 : ¬ Zone env h' X Z σ L := fun q => by obtain ⟨o, e⟩ := F.view.zin L ((zz L).mp q); rw [hL] at e; cases e
    obtain ⟨F2, S2⟩ := F.toFView.addX hk hL (let ⟨o, _, _, e, _⟩ := hns; ⟨o, e⟩)
    have hrep2 : Rep h' (Zone env h' (fun a => X a ∨ a = L) Z σ) (.ref D₁) (.lst (((List.range its.length).filter p).map f)) := hr.weaken fun b q => by
      rcases q with (q | q) | q | q
      · exact .inl (.inl q)
      · exact .inr q
      · exact .inl (.inr (.inl q))
      · exact .inl ((zz b).mp (.inr (.inr q)))
    show wpAny _ A (PySem.assign (.Name y py) env (.ref D₁)) _ _ _
    refine wpAny_assign_Name (storeName_F (s := { s with heap := h', toks := tk }) F2 (stored_of he hy) hrep2 fun h2 tk2 F3 S3 => ?_)
    have hLZ : ¬ Z L := fun q => hL2 (.inr (.inl q))
    have hLO : ¬ Own env h' σ L := fun q => hL2 (.inr (.inr q))
    have hns2 : ∃ m, h2.Ns L m := by
      obtain ⟨o, es, ep, e, r⟩ := hns
      exact ⟨_, o, es, ep, S3.stay L o hLZ hLO e, r⟩
    obtain ⟨m2, hm2⟩ := hns2
    refine ⟨m2, hm2, fun h3 hs3 => ⟨h3, tk2, rfl, ?_⟩⟩
    have hL0 : C.h₀.get? L = none := by
      cases e : C.h₀.get? L with
      | none => rfl
      | some o => have := F.view.keep L o e; rw [hL] at this; cases this
    obtain ⟨F4, own4⟩ := F3.item (Y := X) (I := L) (fun _ q => .inl q) (.inr rfl) hLZ hL0 (fun b o hb e => hs3.extBut b o hb e) fun q => absurd (.inl q) hL2
    refine ⟨F4, ⟨fun b o hz ho e => ?_, fun b ⟨o, e⟩ => ?_, fun a q => ?_⟩⟩
    · exact hs3.extBut b o (fun q => by rw [q, hL] at e; cases e) ((S2.tr S3).stay b o hz ho e)
    · obtain ⟨o', e'⟩ := (S2.tr S3).live b ⟨o, e⟩
      exact ⟨o', hs3.extBut b o' (fun q => by rw [q, hL] at e; cases e) e'⟩
    · exact (S2.tr S3).own a ((own4 a).mp q)
theorem Ex1.assignL {α : Type} {x y : PySem.Str} {px py vpos pos : Pos} {elt iter : PySem.Expr} {scope : Scope} {src : D} (l : List α) (c g : α → D) (hok : compOk sc scope x = true) (hσ : freeOk σ scope = true)
    (hi : Ev C sc σ iter src) (hsrc : Src src (l.map c)) (hlen : l.length ≤ 2 ^ 24)
    (helt : ∀ a ∈ l, Ev C (relab scope sc) (inner scope σ x (c a)) elt (g a)) (hy : Stored sc y = true) (hs : notSet iter = true := by rfl) :
    Ex1 C sc σ (.Assign [.Name y py] (.ListComp elt [⟨.Name x px, iter, [], 0⟩] scope vpos) pos) (.next (upd σ y (.lst (l.map g)))) := by
  have key : ∀ i d, (l.map c)[i]? = some d → ∃ a ∈ l, d = c a ∧ (l.map g).getD i .none = g a := fun i d hd => by
    rw [List.getElem?_map, Option.map_eq_some_iff] at hd
    obtain ⟨a, ha, rfl⟩ := hd
    exact ⟨a, List.mem_of_getElem? ha, rfl, by simp [List.getD_eq_getElem?_getD, ha]⟩
  have := Ex1.assignComp (C := C) (sc := sc) (σ := σ) (px := px) (py := py) (vpos := vpos) (pos := pos) (ifs := []) (fun i => (l.map g).getD i .none) (fun _ => true) hok hσ hi hsrc (by simpa using hlen) (fun _ _ _ => rfl) (fun i d hd _ => by
    obtain ⟨a, ha, rfl, e⟩ := key i d hd; rw [e]; exact helt a ha) hy hs
  rw [List.filter_eq_self.mpr (fun _ _ => rfl), List.length_map] at this
  have e := range_getD (l.map g) D.none
  rw [List.length_map] at e
  rw [e] at this
  exact this
theorem Ex1.assignN {x y : PySem.Str} {px py vpos pos : Pos} {elt iter : PySem.Expr} {scope : Scope} {n : Nat} (g : Nat → D) (hok : compOk sc scope x = true) (hσ : freeOk σ scope = true)
    (hi : Ev C sc σ iter (.rng n)) (hn : n ≤ 2 ^ 24) (helt : ∀ i, i < n → Ev C (relab scope sc) (inner scope σ x (.int (i : Int))) elt (g i)) (hy : Stored sc y = true) (hs : notSet iter = true := by rfl) :
    Ex1 C sc σ (.Assign [.Name y py] (.ListComp elt [⟨.Name x px, iter, [], 0⟩] scope vpos) pos) (.next (upd σ y (.lst ((List.range n).map g)))) :=
  Ex1.assignL (List.range n) (fun i => .int (i : Int)) g hok hσ hi (.rng n hn) (by simpa using hn) (fun i hi => helt i (List.mem_range.mp hi)) hy hs
theorem Ex1.assignNIf {x y : PySem.Str} {px py vpos pos : Pos} {elt iter t : PySem.Expr} {scope : Scope} {n : Nat} (g : Nat → D) (p : Nat → Bool) (hok : compOk sc scope x = true) (hσ : freeOk σ scope = true)
    (hi : Ev C sc σ iter (.rng n)) (hn : n ≤ 2 ^ 24) (htest : ∀ i, i < n → Tst C (relab scope sc) (inner scope σ x (.int (i : Int))) t (p i))
    (helt : ∀ i, i < n → p i = true → Ev C (relab scope sc) (inner scope σ x (.int (i : Int))) elt (g i)) (hy : Stored sc y = true) (hs : notSet iter = true := by rfl) :
    Ex1 C sc σ (.Assign [.Name y py] (.ListComp elt [⟨.Name x px, iter, [t], 0⟩] scope vpos) pos) (.next (upd σ y (.lst (((List.range n).filter p).map g)))) := by
  have key : ∀ i d, ((List.range n).map fun (i : Nat) => D.int (i : Int))[i]? = some d → i < n ∧ d = .int (i : Int) := fun i d hd => by
    have hlt : i < n := by
      rcases Nat.lt_or_ge i n with q | q
      · exact q
      · rw [List.getElem?_eq_none (by simpa using q)] at hd; cases hd
    simp [hlt] at hd; exact ⟨hlt, hd.symm⟩
  have := Ex1.assignComp (C := C) (sc := sc) (σ := σ) (px := px) (py := py) (vpos := vpos) (pos := pos) (ifs := [t]) g p hok hσ hi (.rng n hn) (by simpa using hn) (fun i d hd => by obtain ⟨hl, rfl⟩ := key i d hd; exact htest i hl) (fun i d hd hp => by obtain ⟨hl, rfl⟩ := key i d hd; exact helt i hl hp) hy hs
  rw [List.length_map, List.length_range] at this
  exact this
end
end Mine
namespace Mine
section
variable {C : Cx} {env : Env} {X Z : Addr → Prop} {sc : Scope} {σ : St}

theorem storeName_raw {M : Model} {A : Around} {E : Value → Shared → Prop} {s : Shared} {x : PySem.Str} {v : Value} {Q : Unit → Shared → Prop} (F : FView C env s.heap X Z σ) (hx : env.kindOf x = some .local ∨ env.kindOf x = some .cell)
    (hq : ∀ h' tk a, Heap.SameBut a s.heap h' → Z a → (∃ o, h'.get? a = some o) → Sees env h' x v → (∀ y u, y ≠ x → (Sees env h' y u ↔ Sees env s.heap y u)) → (∃ m, h'.Ns env.locals m) → (∀ y c, env.cells.lookup y = some c → ∃ u, h'.IsCell c u) → Q () { s with heap := h', toks := tk }) :
    wpAny M A (storeName env x v) Q E s := by
  obtain ⟨m, hm⟩ := F.loc
  rcases hx with hl | hl
  · refine wpAny_storeName_local hl hm (fun h' hn hs => ?_) (by rw [F.view.kind]; rfl)
    have cne : ∀ y c, env.cells.lookup y = some c → c ≠ env.locals := fun y c e q => by
      obtain ⟨_, u, hu⟩ := F.cel y c e; rw [q] at hu; exact ns_not_cell hm hu
    refine hq h' _ _ hs F.zloc (let ⟨o, _, _, e, _⟩ := hn; ⟨o, e⟩) (.inl ⟨hl, _, hn, by simp⟩) (fun y u hy => ?_) ⟨_, hn⟩ (fun y c e => let ⟨_, u, hu⟩ := F.cel y c e; ⟨u, hu.sameBut hs (cne y c e)⟩)
    constructor
    · rintro (⟨k, m', n', e⟩ | ⟨k, c, n', e⟩)
      · rw [ns_fun n' hn] at e; dsimp only at e; rw [if_neg hy] at e; exact .inl ⟨k, m, hm, e⟩
      · obtain ⟨_, u', hu⟩ := F.cel y c n'
        have := cell_fun (hu.sameBut hs (cne y c n')) e; subst this
        exact .inr ⟨k, c, n', hu⟩
    · rintro (⟨k, m', n', e⟩ | ⟨k, c, n', e⟩)
      · rw [ns_fun n' hm] at e; exact .inl ⟨k, _, hn, by rw [if_neg hy]; exact e⟩
      · exact .inr ⟨k, c, n', e.sameBut hs (cne y c n')⟩
  · obtain ⟨c, hc⟩ := F.celk x hl
    obtain ⟨hzc, v₀, hv₀⟩ := F.cel x c hc
    refine wpAny_storeName_cell F.view.kind hl hc hv₀ fun h' hn hs => ?_
    have cne : env.locals ≠ c := fun q => by rw [← q] at hv₀; exact ns_not_cell hm hv₀
    have oth : ∀ y c', y ≠ x → env.cells.lookup y = some c' → c' ≠ c := fun y c' hy e q => hy (F.apart y x c (q ▸ e) hc)
    refine hq h' s.toks c hs hzc (let ⟨o, e, _⟩ := hn; ⟨o, e⟩) (.inr ⟨.inl hl, c, hc, hn⟩) (fun y u hy => ?_) ⟨_, hm.sameBut hs cne⟩ (fun y c' e => ?_)
    · constructor
      · rintro (⟨k, m', n', e⟩ | ⟨k, c', n', e⟩)
        · rw [ns_fun n' (hm.sameBut hs cne)] at e; exact .inl ⟨k, m, hm, e⟩
        · obtain ⟨_, u', hu⟩ := F.cel y c' n'
          have := cell_fun (hu.sameBut hs (oth y c' hy n')) e; subst this
          exact .inr ⟨k, c', n', hu⟩
      · rintro (⟨k, m', n', e⟩ | ⟨k, c', n', e⟩)
        · rw [ns_fun n' hm] at e; exact .inl ⟨k, m, hm.sameBut hs cne, e⟩
        · exact .inr ⟨k, c', n', e.sameBut hs (oth y c' hy n')⟩
    · by_cases hy : y = x
      · subst hy; rw [hc] at e; cases e; exact ⟨_, hn⟩
      · obtain ⟨_, u, hu⟩ := F.cel y c' e; exact ⟨u, hu.sameBut hs (oth y c' hy e)⟩

/-- a new list that x alone holds -/
theorem FView.storeOwn {h h₀ h' : Heap} {x : PySem.Str} {a l : Addr} (F : FView C env h X Z σ) (F₀ : FView C env h₀ X Z σ) (hk : ∀ b o, h₀.get? b = some o → h.get? b = some o) (hl0 : h₀.get? l = none) (hl : h.PlainList l #[]) (hs : Heap.SameBut a h h') (ha : Z a) (hex : ∃ o, h'.get? a = some o)
    (hx : Sees env h' x (.ref l)) (hoth : ∀ y u, y ≠ x → (Sees env h' y u ↔ Sees env h y u)) (hloc : ∃ m, h'.Ns env.locals m) (hcel : ∀ y c, env.cells.lookup y = some c → ∃ u, h'.IsCell c u) :
    FView C env h' X Z (upd σ x (.own [])) ∧ Stp env Z h₀ σ h' (upd σ x (.own [])) := by
  obtain ⟨_, S₀, zz⟩ := F₀.keeps hk
  have hlz : ¬ Zone env h X Z σ l := fun q => by obtain ⟨o, e⟩ := F₀.view.zin l ((zz l).mp q); rw [hl0] at e; cases e
  have hla : l ≠ a := fun q => hlz (.inr (.inl (q ▸ ha)))
  have ownSub : ∀ b, Own env h' (upd σ x (.own [])) b → Own env h σ b ∨ b = l := fun b ⟨y, ds, e, q⟩ => by
    unfold upd at e
    by_cases hy : y = x
    · rw [hy] at q; have := q.fun hx; cases this; exact .inr rfl
    · rw [if_neg hy] at e; exact .inl ⟨y, ds, e, (hoth y _ hy).mp q⟩
  have zoneSub : ∀ b, Zone env h' X Z (upd σ x (.own [])) b → Zone env h X Z σ b ∨ b = l := fun b q => by
    rcases q with q | q | q
    · exact .inl (.inl q)
    · exact .inl (.inr (.inl q))
    · exact (ownSub b q).imp (fun q => .inr (.inr q)) id
  have stay : ∀ b o, ¬ Z b → h.get? b = some o → h'.get? b = some o := fun b o hb e => hs.extBut b o (fun q => hb (q ▸ ha)) e
  have live : ∀ b, (∃ o, h.get? b = some o) → ∃ o, h'.get? b = some o := fun b ⟨o, e⟩ => by
    by_cases hb : b = a
    · rw [hb]; exact hex
    · exact ⟨o, hs.extBut b o hb e⟩
  have hl' : h'.PlainList l #[] := hl.at fun o e => hs.extBut l o hla e
  have hl00 : C.h₀.get? l = none := by
    cases e : C.h₀.get? l with
    | none => rfl
    | some o => have := F₀.view.keep l o e; rw [hl0] at this; cases this
  -- data of before knows nothing of l
  have var : ∀ y dy, y ≠ x → σ y = some dy → ∃ u, Sees env h' y u ∧ VRep h' (Zone env h' X Z (upd σ x (.own []))) u dy := fun y dy hyx hy => by
    obtain ⟨u, hu, ru⟩ := F₀.view.var y dy hy
    refine ⟨u, (hoth y u hyx).mpr (hu.keeps hk), ru.move (fun b o hb e => stay b o (fun q => hb (.inr (.inl q))) (hk b o e)) (fun b q => ?_) fun l' b hd' hub o e => ?_⟩
    · rcases zoneSub b q with q | q
      · exact .inl ((zz b).mp q)
      · exact .inr (by rw [q]; exact hl0)
    · subst hd'; subst hub
      exact stay b o (F₀.ownz b ⟨y, l', hy, hu⟩).2.1 (hk b o e)
  refine ⟨⟨⟨F.view.base, fun b o e => stay b o (fun q => by rw [F.znew b q] at e; cases e) (F.view.keep b o e), F.view.kind, F.view.glb, F.view.bui, fun b q => ?_, fun y dy hy => ?_⟩, hloc, F.zloc, fun y c e => ⟨(F.cel y c e).1, hcel y c e⟩, F.celk, F.apart, F.znew, fun b q => ?_, fun y z ds es b hy hz sy sz => ?_⟩,
    ⟨fun b o hb ho e => stay b o hb (hk b o e), fun b ⟨o, e⟩ => live b ⟨o, hk b o e⟩, fun b q => ?_⟩⟩
  · rcases zoneSub b q with q | q
    · exact live b (F.view.zin b q)
    · rw [q]; obtain ⟨_, e⟩ := hl'; exact ⟨_, e⟩
  · by_cases hyx : y = x
    · unfold upd at hy; rw [if_pos hyx] at hy; cases hy; rw [hyx]; exact ⟨_, hx, l, [], rfl, hl', .nil⟩
    · have hy' := hy; unfold upd at hy'; rw [if_neg hyx] at hy'; exact var y dy hyx hy'
  · rcases ownSub b q with q | q
    · exact F.ownz b q
    · rw [q]; exact ⟨fun q => hlz (.inl q), fun q => hlz (.inr (.inl q)), hl00⟩
  · have notl : ∀ y ds, y ≠ x → (upd σ x (.own [])) y = some (.own ds) → Sees env h' y (.ref l) → False := fun y ds hyx hy sy => by
      unfold upd at hy; rw [if_neg hyx] at hy
      exact hlz (.inr (.inr ⟨y, ds, hy, (hoth y _ hyx).mp sy⟩))
    by_cases hyx : y = x
    · by_cases hzx : z = x
      · rw [hyx, hzx]
      · rw [hyx] at sy; have := sy.fun hx; cases this; exact (notl z es hzx hz sz).elim
    · by_cases hzx : z = x
      · rw [hzx] at sz; have := sz.fun hx; cases this; exact (notl y ds hyx hy sy).elim
      · unfold upd at hy hz; rw [if_neg hyx] at hy; rw [if_neg hzx] at hz
        exact F.ownap y z ds es b hy hz ((hoth y _ hyx).mp sy) ((hoth z _ hzx).mp sz)
  · rcases ownSub b q with q | q
    · exact S₀.own b q
    · exact .inr (by rw [q]; exact hl0)

theorem Ex1.own {x : PySem.Str} {px pos lp : Pos} (hx : Stored sc x = true) : Ex1 C sc σ (.Assign [.Name x px] (.List [] lp) pos) (.next (upd σ x (.own []))) := by
  intro env A s X Z he hA F
  refine wpAny_Assign_Name (wpAny_List (wpAny_items_nil ⟨Nat.zero_le _, ?_⟩)) rfl
  have hk : ∀ b o, s.heap.get? b = some o → (s.heap.push { cls := .type "list", data := .seq ([] : List Value).toArray }).get? b = some o := fun b o e => Heap.get?_push_of_some _ e
  obtain ⟨F1, _, _⟩ := F.keeps hk
  refine storeName_raw (s := { s with heap := s.heap.push { cls := .type "list", data := .seq ([] : List Value).toArray } }) F1 (stored_of he hx) fun h' tk a hs ha hex hse hoth hloc hcel => ?_
  obtain ⟨F2, S2⟩ := F1.storeOwn F.toFView hk (get_size _) ⟨_, Heap.get?_push_size _ rfl⟩ hs ha hex hse hoth hloc hcel
  exact ⟨h', tk, rfl, F2, S2⟩

/-- nobody adds to x any more -/
theorem FView.freeze {h : Heap} {x : PySem.Str} {ds : List D} (F : FView C env h X Z σ) (hx : σ x = some (.own ds)) : FView C env h X Z (upd σ x (.lst ds)) ∧ Stp env Z h σ h (upd σ x (.lst ds)) := by
  have ownSub : ∀ b, Own env h (upd σ x (.lst ds)) b → Own env h σ b := fun b ⟨y, es, e, q⟩ => by
    unfold upd at e
    by_cases hy : y = x
    · rw [if_pos hy] at e; cases e
    · rw [if_neg hy] at e; exact ⟨y, es, e, q⟩
  have zoneSub : ∀ b, Zone env h X Z (upd σ x (.lst ds)) b → Zone env h X Z σ b := fun b q => q.imp id (Or.imp id (ownSub b))
  refine ⟨⟨⟨F.view.base, F.view.keep, F.view.kind, F.view.glb, F.view.bui, fun b q => F.view.zin b (zoneSub b q), fun y dy hy => ?_⟩, F.loc, F.zloc, F.cel, F.celk, F.apart, F.znew, fun b q => F.ownz b (ownSub b q), fun y z es fs b hy hz sy sz => ?_⟩, ⟨fun _ _ _ _ e => e, fun _ q => q, fun b q => .inl (ownSub b q)⟩⟩
  · unfold upd at hy
    by_cases hyx : y = x
    · rw [if_pos hyx] at hy; cases hy
      obtain ⟨v, hv, a, vs, rfl, hl, hr⟩ := F.view.var x _ hx
      refine ⟨_, by rw [hyx]; exact hv, .lst (fun q => ?_) hl (hr.weaken zoneSub)⟩
      obtain ⟨q1, q2, _⟩ := F.ownz a ⟨x, ds, hx, hv⟩
      rcases q with q | q | ⟨y', es, e, sy⟩
      · exact q1 q
      · exact q2 q
      · unfold upd at e
        by_cases hy' : y' = x
        · rw [if_pos hy'] at e; cases e
        · rw [if_neg hy'] at e; exact hy' (F.ownap y' x es ds a e hx sy hv)
    · rw [if_neg hyx] at hy
      obtain ⟨v, hv, r⟩ := F.view.var y dy hy
      exact ⟨v, hv, r.move (fun _ _ _ e => e) (fun b q => .inl (zoneSub b q)) fun _ _ _ _ _ e => e⟩
  · unfold upd at hy hz
    by_cases hyx : y = x
    · rw [if_pos hyx] at hy; cases hy
    · by_cases hzx : z = x
      · rw [if_pos hzx] at hz; cases hz
      · rw [if_neg hyx] at hy; rw [if_neg hzx] at hz; exact F.ownap y z es fs b hy hz sy sz

theorem Ex.freeze {x : PySem.Str} {ds : List D} {ss : List Stmt} {o : Out} (hx : σ x = some (.own ds)) (h : Ex C sc (upd σ x (.lst ds)) ss o) : Ex C sc σ ss o := by
  intro env A s X Z he hA F
  obtain ⟨F', S'⟩ := F.freeze hx
  refine wpAny_mono (h env A s X Z he hA ⟨F', F.tk⟩) (fun f s' q => ?_) fun _ _ q => q.elim
  obtain ⟨h', tk, rfl, q⟩ := q
  exact ⟨h', tk, rfl, q.tr S'⟩

/-- x grows by one -/
theorem FView.grow {h h' : Heap} {x : PySem.Str} {a : Addr} {vs : List Value} {ds : List D} {v : Value} {d : D} (F : FView C env h X Z σ) (hx : σ x = some (.own ds)) (hv : Sees env h x (.ref a)) (hr : Reps h (Zone env h X Z σ) vs ds) (hd : Rep h (Zone env h X Z σ) v d)
    (hl : h'.PlainList a (vs ++ [v]).toArray) (hs : Heap.SameBut a h h') : FView C env h' X Z (upd σ x (.own (ds ++ [d]))) ∧ Stp env Z h σ h' (upd σ x (.own (ds ++ [d]))) := by
  obtain ⟨aX, aZ, a0⟩ := F.ownz a ⟨x, ds, hx, hv⟩
  have hLa : env.locals ≠ a := fun q => aZ (q ▸ F.zloc)
  have hca : ∀ y c, env.cells.lookup y = some c → c ≠ a := fun y c e q => aZ (q ▸ (F.cel y c e).1)
  have sees : ∀ y u, Sees env h y u → Sees env h' y u := fun y u r => r.imp (fun ⟨p, m, b, c⟩ => ⟨p, m, b.sameBut hs hLa, c⟩) fun ⟨p, c, b, e⟩ => ⟨p, c, b, e.sameBut hs (hca y c b)⟩
  have hs' : Heap.SameBut a h' h := ⟨hs.1.symm, fun b hb => (hs.2 b hb).symm⟩
  have sees' : ∀ y u, Sees env h' y u → Sees env h y u := fun y u r => r.imp (fun ⟨p, m, b, c⟩ => ⟨p, m, b.sameBut hs' hLa, c⟩) fun ⟨p, c, b, e⟩ => ⟨p, c, b, e.sameBut hs' (hca y c b)⟩
  have ownSub : ∀ b, Own env h' (upd σ x (.own (ds ++ [d]))) b → Own env h σ b := fun b ⟨y, es, e, q⟩ => by
    unfold upd at e
    by_cases hy : y = x
    · exact ⟨x, ds, hx, by rw [hy] at q; exact sees' x _ q⟩
    · rw [if_neg hy] at e; exact ⟨y, es, e, sees' y _ q⟩
  have zoneSub : ∀ b, Zone env h' X Z (upd σ x (.own (ds ++ [d]))) b → Zone env h X Z σ b := fun b q => q.imp id (Or.imp id (ownSub b))
  have aIn : Zone env h X Z σ a := .inr (.inr ⟨x, ds, hx, hv⟩)
  have stay : ∀ b o, ¬ Zone env h X Z σ b → h.get? b = some o → h'.get? b = some o := fun b o hb e => hs.extBut b o (fun q => hb (by rw [q]; exact aIn)) e
  have live : ∀ b, (∃ o, h.get? b = some o) → ∃ o, h'.get? b = some o := fun b ⟨o, e⟩ => by
    by_cases hb : b = a
    · obtain ⟨_, e⟩ := hl; rw [hb]; exact ⟨_, e⟩
    · exact ⟨o, hs.extBut b o hb e⟩
  refine ⟨⟨⟨F.view.base, fun b o e => hs.extBut b o (fun q => by rw [q, a0] at e; cases e) (F.view.keep b o e), F.view.kind, F.view.glb, F.view.bui, fun b q => live b (F.view.zin b (zoneSub b q)), fun y dy hy => ?_⟩, let ⟨m, e⟩ := F.loc; ⟨m, e.sameBut hs hLa⟩, F.zloc, fun y c e => let ⟨p, u, q⟩ := F.cel y c e; ⟨p, u, q.sameBut hs (hca y c e)⟩, F.celk, F.apart, F.znew,
    fun b q => F.ownz b (ownSub b q), fun y z es fs b hy hz sy sz => ?_⟩, ⟨fun b o hz ho e => hs.extBut b o (fun q => ho (by rw [q]; exact ⟨x, ds, hx, hv⟩)) e, live, fun b q => .inl (ownSub b q)⟩⟩
  · unfold upd at hy
    by_cases hyx : y = x
    · rw [if_pos hyx] at hy; cases hy
      exact ⟨.ref a, by rw [hyx]; exact sees x _ hv, a, vs ++ [v], rfl, hl, (hr.snoc hd).move (fun b o hb e => stay b o hb e) fun b q => .inl (zoneSub b q)⟩
    · rw [if_neg hyx] at hy
      obtain ⟨u, hu, r⟩ := F.view.var y dy hy
      refine ⟨u, sees y u hu, r.move (fun b o hb e => stay b o hb e) (fun b q => .inl (zoneSub b q)) fun l b hd' hub o e => ?_⟩
      subst hd'; subst hub
      exact hs.extBut b o (fun q => hyx (F.ownap y x l ds a hy hx (by rw [← q]; exact hu) hv)) e
  · have back : ∀ y es, (upd σ x (.own (ds ++ [d]))) y = some (.own es) → ∃ es', σ y = some (.own es') := fun y es hy => by
      unfold upd at hy
      by_cases hyx : y = x
      · rw [hyx]; exact ⟨ds, hx⟩
      · rw [if_neg hyx] at hy; exact ⟨es, hy⟩
    obtain ⟨es', hy'⟩ := back y es hy
    obtain ⟨fs', hz'⟩ := back z fs hz
    exact F.ownap y z es' fs' b hy' hz' (sees' y _ sy) (sees' z _ sz)
end
end Mine
namespace Mine
section
variable {C : Cx} {sc : Scope} {σ : St}

theorem Ex1.append {x : PySem.Str} {np apos cpos pos : Pos} {e : PySem.Expr} {ds : List D} {d : D} (hx : σ x = some (.own ds)) (h : Ev C sc σ e d) (hlen : ds.length ≤ 2 ^ 24) (hline : (apos.endLine == cpos.line) = true := by rfl) (hst : notStar e = true := by rfl)
    (hd : (x == ("__debug__" : PySem.Str)) = false := by decide) (hn : (x == ("__classdict__" : PySem.Str)) = false := by decide) :
    Ex1 C sc σ (.Expr (.Call (.Attribute (.Name x np) "append" apos) [e] [] cpos) pos) (.next (upd σ x (.own (ds ++ [d])))) := by
  intro env A s X Z he hA F
  obtain ⟨v, hv, a, vs, rfl, hl, hr⟩ := F.view.var x _ hx
  have htrees : backTo cpos (starEach [e] env) = [(false, eval e env)] := by rw [starEach_cons hst]; rfl
  refine wpAny_Expr (wpAny_Call_append rfl (by rw [htrees]; rfl) hline htrees (wpAny_Name (loadName_sees F.view.kind hv ?_ hn) hd)) (by unfold interactive; rw [F.view.kind]; rfl) rfl
  refine ⟨a, vs.toArray, rfl, ?_, ?_⟩
  · obtain ⟨n, eo⟩ := hl; exact ⟨_, n, eo, rfl, rfl, rfl⟩
  · refine h.then he hA ⟨F.view, F.tk⟩ fun u s1 k1 V1 r1 => ?_
    obtain ⟨h1, tk1, rfl⟩ := k1.eq
    have k : ∀ b o, s.heap.get? b = some o → h1.get? b = some o := k1.old
    obtain ⟨F1, S1, zz⟩ := F.toFView.keeps k
    have r1' : Rep h1 (Zone env h1 X Z σ) u d := r1.weaken fun b q => (zz b).mp q
    have hr1 : Reps h1 (Zone env h1 X Z σ) vs ds := (hr.keeps k).weaken fun b q => (zz b).mp q
    refine wpAny_list_append_plain (hsz := by rw [List.size_toArray, hr.length]; exact hlen) (hl.at fun o e => k _ o e) fun h2 hl2 hs2 => ?_
    obtain ⟨F2, S2⟩ := F1.grow (v := u) (d := d) (vs := vs) hx (hv.keeps k) hr1 r1' (by simpa using hl2) hs2
    exact ⟨h2, tk1, rfl, F2, S1.tr S2⟩

/-- two or three names at once from a tuple that stands written: stored from behind -/
theorem Ex1.swapped {ns : List PySem.Str} {elts : List PySem.Expr} {k : Nat} {tp pos : Pos} {e : PySem.Expr} {d : D} {ds : List D} (h : Ev C sc σ e d) (hs : Seq d ds) (hx : ∀ x ∈ ns, Stored sc x = true) (hl : ns.length = ds.length) (hsz : ds.length ≤ 2 ^ 24)
    (hsw : ∀ env, swapsWithSole [.Tuple elts k tp] e pos.line env = pure false := by intro _; rfl)
    (hst : ∀ env, env.scope = sc → swappedStores [.Tuple elts k tp] e env = pure (some ns)) : Ex1 C sc σ (.Assign [.Tuple elts k tp] e pos) (.next (updAll σ (ns.reverse.map fun x => (x, pos)) ds.reverse)) := by
  intro env A s X Z he hA F
  refine Assign_Tuple_swapped (h.thenF he hA F fun v h1 tk1 F1 S1 r1 => ?_) (hsw env) (hst env he)
  rw [hl]
  refine unpackItems_any (s := { s with heap := h1, toks := tk1 }) hA.hh r1 hs hsz fun vs h2 tk2 rs hk => ?_
  obtain ⟨F2, S2, zz⟩ := F1.toFView.keeps hk
  have go : ∀ (ms : List PySem.Str) (us : List Value) (es : List D) (σ : St) (s : Shared), (∀ x ∈ ms, Stored sc x = true) → ms.length = es.length → FView C env s.heap X Z σ → Reps s.heap (Zone env s.heap X Z σ) us es →
      wpAny (model C.prog C.w) A (assignInOrder (ms.map fun n => bindName env n) us) (fun _ s' => ∃ h' tk, s' = { s with heap := h', toks := tk } ∧ FView C env h' X Z (updAll σ (ms.map fun x => (x, pos)) es) ∧ Stp env Z s.heap σ h' (updAll σ (ms.map fun x => (x, pos)) es)) (fun _ _ => False) s := by
    intro ms
    induction ms with
    | nil =>
      intro us es σ s _ hl F r
      cases es with
      | cons d ds => simp at hl
      | nil => cases r; exact wpAny_pure ⟨s.heap, s.toks, rfl, F, stp_rfl⟩
    | cons x ms ih =>
      intro us es σ s hx hl F r
      cases es with
      | nil => simp at hl
      | cons d ds =>
        cases r with | cons r0 rn =>
        show wpAny _ A (do holding _ (bindName env x _); assignInOrder (ms.map fun n => bindName env n) _) _ _ s
        refine wpAny_bind (wpAny_holding (wpAny_bindName (storeName_F F (stored_of he (hx x List.mem_cons_self)) r0 fun h' tk F' S' => ?_)))
        refine wpAny_mono (ih _ ds (upd σ x d) _ (fun q hq => hx q (List.mem_cons_of_mem _ hq)) (by simpa using hl) F' (rn.stp S')) (fun _ s'' q => ?_) fun _ _ q => q.elim
        obtain ⟨h'', tk'', rfl, F'', S''⟩ := q
        exact ⟨h'', tk'', rfl, F'', S'.tr S''⟩
  have rev : ∀ {us : List Value} {es : List D} {h : Heap} {Y : Addr → Prop}, Reps h Y us es → Reps h Y us.reverse es.reverse := by
    intro us es h Y r
    refine reps_of_items (by simp [r.length]) fun j v e => ?_
    have hj : j < us.length := by
      rcases Nat.lt_or_ge j us.length with q | q
      · exact q
      · rw [List.getElem?_eq_none (by simpa using q)] at e; cases e
    rw [List.getElem?_reverse hj] at e
    obtain ⟨d', e', r'⟩ := r.at _ v e
    refine ⟨d', ?_, r'⟩
    rw [List.getElem?_reverse (by rw [← r.length]; exact hj), ← r.length]; exact e'
  refine wpAny_mono (go ns.reverse vs.reverse ds.reverse σ { s with heap := h2, toks := tk2 } (fun x hq => hx x (List.mem_reverse.mp hq)) (by simp [hl]) F2 (rev (rs.weaken fun b q => (zz b).mp q))) (fun _ s3 q => ?_) fun _ _ q => q.elim
  obtain ⟨h3, tk3, rfl, F3, S3⟩ := q
  exact ⟨h3, tk3, rfl, F3, (S1.tr S2).tr S3⟩
end
end Mine
namespace Mine

theorem bindL_other (k : PySem.Str → Option NameKind) : ∀ (binds : List (PySem.Str × Value)) (m : PySem.Str → Option Value) (x : PySem.Str), x ∉ binds.map (·.1) → bindL k binds m x = m x
  | [], _, _, _ => rfl
  | (n, v) :: r, m, x, h => by
    unfold bindL
    rw [bindL_other k r _ x fun q => h (by simp at q ⊢; exact .inr q)]
    have hx : x ≠ n := fun q => h (by simp [q])
    by_cases hk : k n = some .local
    · rw [if_pos hk]; simp [hx]
    · rw [if_neg hk]
theorem bindL_at (k : PySem.Str → Option NameKind) : ∀ (binds : List (PySem.Str × Value)) (m : PySem.Str → Option Value) (x : PySem.Str) (v : Value), (binds.map (·.1)).Nodup → (x, v) ∈ binds → k x = some .local → bindL k binds m x = some v
  | (n, u) :: r, m, x, v, hn, hm, hk => by
    unfold bindL
    rw [List.map_cons, List.nodup_cons] at hn
    rcases List.mem_cons.mp hm with q | q
    · cases q
      rw [bindL_other k r _ n hn.1, if_pos hk]; simp
    · exact bindL_at k r _ x v hn.2 q hk
theorem bindC_other (k : PySem.Str → Option NameKind) : ∀ (binds : List (PySem.Str × Value)) (m : PySem.Str → Option Value) (x : PySem.Str), x ∉ binds.map (·.1) → bindC k binds m x = m x
  | [], _, _, _ => rfl
  | (n, v) :: r, m, x, h => by
    unfold bindC
    rw [bindC_other k r _ x fun q => h (by simp at q ⊢; exact .inr q)]
    have hx : x ≠ n := fun q => h (by simp [q])
    by_cases hk : k n = some .local
    · rw [if_pos hk]
    · rw [if_neg hk]; simp [hx]
theorem bindC_at (k : PySem.Str → Option NameKind) : ∀ (binds : List (PySem.Str × Value)) (m : PySem.Str → Option Value) (x : PySem.Str) (v : Value), (binds.map (·.1)).Nodup → (x, v) ∈ binds → k x ≠ some .local → bindC k binds m x = some v
  | (n, u) :: r, m, x, v, hn, hm, hk => by
    unfold bindC
    rw [List.map_cons, List.nodup_cons] at hn
    rcases List.mem_cons.mp hm with q | q
    · cases q
      rw [bindC_other k r _ n hn.1, if_neg hk]; simp
    · exact bindC_at k r _ x v hn.2 q hk

/-- the parameters' data -/
noncomputable def params : List PySem.Str → List D → St
  | x :: xs, d :: ds => fun y => if y = x then some d else params xs ds y
  | _, _ => fun _ => none
theorem params_at {h : Heap} {Z : Addr → Prop} : ∀ {xs : List PySem.Str} {vs : List Value} {ds : List D} {y : PySem.Str} {d : D}, Reps h Z vs ds → params xs ds y = some d → ∃ v, (y, v) ∈ xs.zip vs ∧ Rep h Z v d
  | [], _, _, _, _, _, e => by simp [params] at e
  | x :: xs, _, _, y, d, .nil, e => by simp [params] at e
  | x :: xs, _, _, y, d, .cons (v := v) (d := d') r0 rn, e => by
    unfold params at e
    by_cases hy : y = x
    · rw [if_pos hy] at e; cases e; exact ⟨v, by rw [hy]; exact List.mem_cons_self, r0⟩
    · rw [if_neg hy] at e; obtain ⟨u, hu, r⟩ := params_at rn e; exact ⟨u, List.mem_cons_of_mem _ hu, r⟩

noncomputable def Cx.deeper (C : Cx) : Cx := { C with k := C.k + 1 }

/-- a call's frame, with a token drawn -/
theorem call_cellsT {prog : Program} {w : World} {A : Around} {s : Shared} {R : Result → Shared → Prop} {a : Addr} {o : Obj} {fd : FuncData} {body : List Stmt} {vals : List Value} {binds : List (PySem.Str × Value)} (hp : 0 < s.toks)
    (hroom : A.depth < recursionLimit) (ho : s.heap.get? a = some o) (hdata : o.data = .func fd) (hlim : s.heap.NoLimit) (hcd : s.heap.CodeRec fd.code fd.qualname)
    (hbody : fd.body = .stmts body) (hbind : bindArgs fd ⟨vals, []⟩ = pure binds) (hclo : fd.closure = [])
    (hkind : ∀ x ∈ binds, fd.scope.names.lookup x.1 = some .local ∨ (fd.scope.names.lookup x.1 = some .cell ∧ ((cellsFrom (s.heap.objs.size + 1) fd.scope.names []).lookup x.1).isSome = true))
    (h : ∀ s₁, 0 < s₁.toks → InCallC s (callEnvC fd s.heap.objs.size a).locals (bindL (callEnvC fd s.heap.objs.size a).kindOf binds fun _ => none) (callEnvC fd s.heap.objs.size a).cells
        (bindC (callEnvC fd s.heap.objs.size a).kindOf binds fun _ => none) s₁ →
      wpAny (model prog w) (A.deeper (callEnvC fd s.heap.objs.size a)) (execs body (callEnvC fd s.heap.objs.size a)) (fun f s' => R (.ok (.ret (match f with | .ret v => v | _ => .none))) s')
        (fun e s' => wpAny (model prog w) (A.deeper (callEnvC fd s.heap.objs.size a)) (leaving (callEnvC fd s.heap.objs.size a) e) (fun _ s'' => R (.error e) s'') (fun e' s'' => R (.error e') s'') s') s₁)
    (hco : fd.scope.isCoroutine = false) (hgen : fd.scope.isGenerator = false) (hk : fd.scope.kind = .function) :
    codeAny (model prog w) A (.call (.ref a) ⟨vals, []⟩) R s := by
  refine codeAny_call_function hroom ho hdata hco hgen hbody hcd ?_
  rw [hbind, hclo]
  refine wpAny_pure (toks_in hp (wpAny_newFunctionEnv_cells hk hkind fun env he s' x p => ?_))
  subst he
  exact ⟨hlim.keeps x.toInCall.keep, codeAny_func (h s' p x)⟩

/-- a call of one of the text's own defs -/
theorem Cal.fn {C : Cx} {fa : Addr} {o : Obj} {fd : FuncData} {body : List Stmt} {xs : List PySem.Str} {ds : List D} {d : D} (ho : C.h₀.get? fa = some o) (hdat : o.data = .func fd) (hcd : C.h₀.CodeRec fd.code fd.qualname) (hbody : fd.body = .stmts body) (hclo : fd.closure = [])
    (hg : fd.globals = mainGlobals) (hb : fd.builtins = builtinsNs) (hk : C.k ≤ 50)
    (hbind : ∀ vs : List Value, vs.length = ds.length → bindArgs fd ⟨vs, []⟩ = pure (xs.zip vs)) (hlen : xs.length = ds.length) (hnd : xs.Nodup) (hkinds : xs.all (fun x => fd.scope.names.lookup x == some .local || fd.scope.names.lookup x == some .cell) = true)
    (hco : fd.scope.isCoroutine = false) (hgen : fd.scope.isGenerator = false) (hkf : fd.scope.kind = .function)
    (hex : Ex C.deeper fd.scope (params xs ds) body (.ret d)) : Cal C (.ref fa) ds d := by
  intro A s Z vs hA hP B hkeep hz r
  have hlv : vs.length = ds.length := r.length
  have hmap : (xs.zip vs).map (·.1) = xs := by
    rw [List.map_fst_zip]; rw [hlen, hlv]; exact Nat.le_refl _
  have hkb : (xs.zip vs).all (fun y => fd.scope.names.lookup y.1 == some .local || fd.scope.names.lookup y.1 == some .cell) = true := by
    rw [List.all_eq_true]; intro y hy
    have : y.1 ∈ xs := by rw [← hmap]; exact List.mem_map.mpr ⟨y, hy, rfl⟩
    exact List.all_eq_true.mp hkinds _ this
  have hroom : A.depth < recursionLimit := by have := hA.dep; show A.depth < 1000; omega
  refine wpAny_call (call_cellsT hP hroom (hkeep _ _ ho) hdat (B.nolim.keeps hkeep) (hcd.keeps hkeep) hbody (hbind vs hlv) hclo (kindsX hkb _) (fun s₁ p₁ I => ?_) hco hgen hkf)
  generalize henv : callEnvC fd s.heap.objs.size fa = env at *
  have hsc : env.scope = fd.scope := by rw [← henv]; rfl
  have hL : env.locals = s.heap.objs.size := by rw [← henv]; rfl
  have hcells : env.cells = cellsFrom (s.heap.objs.size + 1) fd.scope.names [] := by rw [← henv]; rfl
  obtain ⟨h₁, tk, rfl, hk1⟩ := I.done
  let Z' : Addr → Prop := fun b => b = env.locals ∨ ∃ x, env.cells.lookup x = some b
  have hZ's : ∀ b, Z' b → s.heap.get? b = none := fun b q => by
    have hle : s.heap.objs.size ≤ b := by
      rcases q with q | ⟨x, q⟩
      · rw [q, hL]; exact Nat.le_refl _
      · have := I.above x b (mem_of_lookup q); rw [hL] at this; exact Nat.le_of_lt this
    cases e : s.heap.get? b with
    | none => rfl
    | some o => exact absurd (Heap.lt_size e) (Nat.not_lt.mpr hle)
  have noOwn : ∀ y es, params xs ds y ≠ some (.own es) := fun y es e => by
    obtain ⟨v, _, rv⟩ := params_at r e; cases rv
  have noOwn' : ∀ a, ¬ Own env h₁ (params xs ds) a := fun a ⟨y, es, e, _⟩ => noOwn y es e
  have F : FView C.deeper env h₁ Z Z' (params xs ds) := by
    refine ⟨⟨⟨B.glo, B.nolim, B.nob⟩, fun b o e => hk1 b o (hkeep b o e), by rw [hsc]; exact hkf, by rw [← henv]; exact hg, by rw [← henv]; exact hb, fun a q => ?_, fun y dy hy => ?_⟩, ⟨_, I.toInCall.ns⟩, .inl rfl, fun x c e => ⟨.inr ⟨x, e⟩, _, I.cell x c e⟩, fun x hx => ?_, fun x y c e e' => ?_, fun a q => ?_, fun a q => (noOwn' a q).elim, fun x y es fs a e => (noOwn x es e).elim⟩
    · rcases q with q | (q | ⟨x, q⟩) | q
      · obtain ⟨o, e⟩ := hz a q; exact ⟨o, hk1 a o e⟩
      · rw [q]; obtain ⟨o, _, _, e, _⟩ := I.toInCall.ns; exact ⟨o, e⟩
      · obtain ⟨o, e, _⟩ := I.cell x a q; exact ⟨o, e⟩
      · exact (noOwn' a q).elim
    · obtain ⟨v, hv, rv⟩ := params_at r hy
      refine ⟨v, ?_, .of (rv.move (fun b o _ e => hk1 b o e) fun b q => ?_)⟩
      · have hyx : y ∈ xs := by rw [← hmap]; exact List.mem_map.mpr ⟨_, hv, rfl⟩
        have hky := List.all_eq_true.mp hkinds y hyx
        have hndz : ((xs.zip vs).map (·.1)).Nodup := by rw [hmap]; exact hnd
        by_cases hl : env.kindOf y = some .local
        · exact .inl ⟨hl, _, I.toInCall.ns, bindL_at _ _ _ _ _ hndz hv hl⟩
        · have hc : env.kindOf y = some .cell := by
            unfold Env.kindOf at hl ⊢; rw [hsc] at hl ⊢
            rw [Bool.or_eq_true] at hky
            rcases hky with q | q
            · exact absurd (by simpa using q) hl
            · simpa using q
          have hsome : ((cellsFrom (s.heap.objs.size + 1) fd.scope.names []).lookup y).isSome = true := cellsFrom_some _ _ _ (.inl (by rw [← hsc]; exact hc))
          obtain ⟨c, e⟩ := Option.isSome_iff_exists.mp hsome
          rw [← hcells] at e
          have hcell := I.cell y c e
          rw [bindC_at _ _ _ _ _ hndz hv hl] at hcell
          exact .inr ⟨.inl hc, c, e, hcell⟩
      · rcases q with q | q | q
        · exact .inl q
        · exact .inr (hZ's b q)
        · exact (noOwn' b q).elim
    · have hsome : ((cellsFrom (s.heap.objs.size + 1) fd.scope.names []).lookup x).isSome = true := cellsFrom_some _ _ _ (.inl (by rw [← hsc]; exact hx))
      obtain ⟨c, e⟩ := Option.isSome_iff_exists.mp hsome
      exact ⟨c, by rw [hcells]; exact e⟩
    · exact name_of_addr I.apart (mem_of_lookup e) (mem_of_lookup e')
    · cases e : C.deeper.h₀.get? a with
      | none => rfl
      | some o => have := hkeep a o e; rw [hZ's a q] at this; cases this
  have hA' : AOk C.deeper.k (A.deeper env) := ⟨hA.hh, by have := hA.dep; show A.depth + 1 ≤ 400 + (C.k + 1); omega, by have := hA.uni; show A.units + 3 ≤ 100 + 10 * (C.k + 1); omega⟩
  refine wpAny_mono (hex env (A.deeper env) { s with heap := h₁, toks := tk } Z Z' hsc hA' ⟨F, p₁⟩) (fun f s' q => ?_) fun _ _ q => q.elim
  obtain ⟨h', tk', rfl, q⟩ := q
  cases f with
  | ret v =>
    refine ⟨.mk' fun b o e => q.2 b o (fun qz => by rw [hZ's b qz] at e; cases e) (noOwn' b) (hk1 b o e), q.1.weaken fun b q => .inl q⟩
  | _ => exact q.elim
end Mine
namespace Mine
section
variable {C : Cx} {sc : Scope} {σ : St}

/-- the shape of a method call, once the object's expression is written -/
noncomputable def MethShape (o : PySem.Expr) (name : PySem.Str) (apos pos : Pos) (args : List PySem.Expr) : Prop :=
  ∀ env, ∃ pl : Sem Bool, eval (.Call (.Attribute o name apos) args [] pos) env = (do
    let ov ← eval o env
    standAt apos.atName
    let (f, first) ← holding [ov] (getMethod ov name pl)
    callWith pos f first (backTo pos (starEach args env)) [])

theorem Ev.meth {o : PySem.Expr} {name : PySem.Str} {apos pos : Pos} {e : PySem.Expr} {es : List PySem.Expr} {id : String} {x : PySem.Str} {ds : List D} {d : D} (ho : Ev C sc σ o (.str x))
    (hm : ∀ (A : Around) (E : Value → Shared → Prop) (s : Shared) (t : Tok) (pl : Sem Bool) (Q : Value × List Value → Shared → Prop), Q (.builtin id, [.str x t]) s → wpAny (model C.prog C.w) A (getMethod (.str x t) name pl) Q E s)
    (ha : Evs C sc σ (e :: es) ds) (h : Cal C (.builtin id) (.str x :: ds) d) (hsh : MethShape o name apos pos (e :: es)) (hs : (e :: es).all notStar = true := by rfl) : Ev C sc σ (.Call (.Attribute o name apos) (e :: es) [] pos) d := by
  intro env A s Z he hA V
  rw [List.all_cons, Bool.and_eq_true] at hs
  obtain ⟨pl, hpl⟩ := hsh env
  refine MethodCall_ (ho.then he hA V fun v s1 k1 V1 r1 => ?_) hpl
  cases r1 with | str _ t =>
  refine hm A _ s1 t pl _ ?_
  refine callWith_method1 (ha.then he hA V1 fun vs s2 k2 V2 r2 => ?_) (starEach_cons hs.1) (plain_args hs.2)
  exact wpAny_mono (h A s2 Z (.str x t :: vs) hA V2.tk V2.base V2.keep V2.zin (.cons (.str _ _) r2)) (fun v s' ⟨k, q⟩ => ⟨(k1.tr k2).tr k, q⟩) fun _ _ f => f

theorem Ev.split {o a : PySem.Expr} {apos pos : Pos} {x : PySem.Str} {ds : List D} {d : D} (ho : Ev C sc σ o (.str x)) (ha : Evs C sc σ [a] ds) (h : Cal C (.builtin "str.split") (.str x :: ds) d) (hsh : MethShape o "split" apos pos [a]) (hs : [a].all notStar = true := by rfl) :
    Ev C sc σ (.Call (.Attribute o "split" apos) [a] [] pos) d := Ev.meth ho (fun _ _ _ _ _ _ h => GM.split h) ha h hsh hs
theorem Ev.join {o a : PySem.Expr} {apos pos : Pos} {x : PySem.Str} {ds : List D} {d : D} (ho : Ev C sc σ o (.str x)) (ha : Evs C sc σ [a] ds) (h : Cal C (.builtin "str.join") (.str x :: ds) d) (hsh : MethShape o "join" apos pos [a]) (hs : [a].all notStar = true := by rfl) :
    Ev C sc σ (.Call (.Attribute o "join" apos) [a] [] pos) d := Ev.meth ho (fun _ _ _ _ _ _ h => GM.join h) ha h hsh hs
theorem Ev.find {o a : PySem.Expr} {as : List PySem.Expr} {apos pos : Pos} {x : PySem.Str} {ds : List D} {d : D} (ho : Ev C sc σ o (.str x)) (ha : Evs C sc σ (a :: as) ds) (h : Cal C (.builtin "str.find") (.str x :: ds) d) (hsh : MethShape o "find" apos pos (a :: as)) (hs : (a :: as).all notStar = true := by rfl) :
    Ev C sc σ (.Call (.Attribute o "find" apos) (a :: as) [] pos) d := Ev.meth ho (fun _ _ _ _ _ _ h => GM.find h) ha h hsh hs

theorem Reps.ofStrs {h : Heap} {Z : Addr → Prop} : ∀ (l : List (PySem.Str × Tok)), Reps h Z (strValues l) ((l.map (·.1)).map .str)
  | [] => .nil
  | (x, t) :: r => .cons (.str _ _) (Reps.ofStrs r)
theorem strs_of_reps {h : Heap} {Z : Addr → Prop} : ∀ {vs : List Value} {xs : List PySem.Str}, Reps h Z vs (xs.map .str) → ∃ l, vs = strValues l ∧ l.map (·.1) = xs
  | _, [], r => by cases r; exact ⟨[], rfl, rfl⟩
  | _, x :: xs, r => by
    cases r with | cons a b =>
    cases a with | str _ t =>
    obtain ⟨l, e, e'⟩ := strs_of_reps b
    exact ⟨(x, t) :: l, by rw [e]; rfl, by rw [List.map_cons, e']⟩

theorem Cal.split {x y : PySem.Str} (hy : (y.length == 0) = false) (hx : x.length ≤ sizeLine) (hn : (Builtin.Str.partsBetween x (Builtin.Str.occurrences x y 0 x.length (x.length + 1)) y.length).length ≤ sizeLine) :
    Cal C (.builtin "str.split") [.str x, .str y] (.lst ((Txt.split x y).map .str)) := by
  intro A s Z vs hA hP B hk hz r
  cases r with | cons r0 rn =>
  cases rn with | cons r1 rn =>
  cases rn
  cases r0 with | str _ t =>
  cases r1 with | str _ u =>
  have one : Rep (s.heap.push { cls := .type "list", data := .seq [Value.str x t].toArray }) Z (.ref s.heap.objs.size) (.lst ([x].map .str)) := Rep.newList hz (.cons (.str _ _) .nil)
  cases h1 : (decide (x.length < y.length) || decide (Builtin.Str.strKind x < Builtin.Str.strKind y))
  · cases hf : (Builtin.Str.occurrences x y 0 x.length (x.length + 1)).isEmpty
    · refine call_meets F.slot_str_split (typeIs_str _ _ _) F.entry_str_split (F.args_str_split_2 _ _) (meets_str_split_sep x y t u h1 hy hf hx hn) ?_
      have e : Txt.split x y = Builtin.Str.partsBetween x (Builtin.Str.occurrences x y 0 x.length (x.length + 1)) y.length := (if_neg (ne_true_of_eq_false h1)).trans (if_neg (ne_true_of_eq_false hf))
      refine ⟨.mk' fun b o e => Heap.get?_push_of_some _ e, ?_⟩
      have rs : Reps s.heap Z (strsFrom s.toks (Builtin.Str.partsBetween x (Builtin.Str.occurrences x y 0 x.length (x.length + 1)) y.length)) ((Txt.split x y).map .str) := by
        rw [strsFrom_eq, e]
        have := Reps.ofStrs (h := s.heap) (Z := Z) (numbered s.toks (Builtin.Str.partsBetween x (Builtin.Str.occurrences x y 0 x.length (x.length + 1)) y.length))
        rw [numbered_texts] at this; exact this
      exact Rep.newList hz rs
    · have e : Txt.split x y = [x] := (if_neg (ne_true_of_eq_false h1)).trans (if_pos hf)
      rw [e]
      exact call_meets F.slot_str_split (typeIs_str _ _ _) F.entry_str_split (F.args_str_split_2 _ _) (meets_str_split_not_found x y t u h1 hy hf) ⟨.mk' fun b o e => Heap.get?_push_of_some _ e, one⟩
  · have e : Txt.split x y = [x] := if_pos h1
    rw [e]
    exact call_meets F.slot_str_split (typeIs_str _ _ _) F.entry_str_split (F.args_str_split_2 _ _) (meets_str_split_cannot_occur x y t u h1) ⟨.mk' fun b o e => Heap.get?_push_of_some _ e, one⟩

theorem Cal.join {x : PySem.Str} {xs : List PySem.Str} (hok : JoinOk x xs = true) : Cal C (.builtin "str.join") [.str x, .lst (xs.map .str)] (.str (Txt.join x xs)) := by
  intro A s Z vs hA hP B hk hz r
  cases r with | cons r0 rn =>
  cases rn with | cons r1 rn =>
  cases rn
  cases r0 with | str _ t =>
  cases r1 with | @lst a ws _ hn hL hr =>
  obtain ⟨l, e, e'⟩ := strs_of_reps hr
  exact SC.join (l := l) (by rw [← e]; exact hL.isList) e' hok fun t' k => ⟨.tok s k, .str _ _⟩

noncomputable def find4 (x y : PySem.Str) (i j : Int) : Int :=
  match Builtin.Str.occurrences x y (fromIndex x.length i) (min (fromIndex x.length j) x.length) 1 with | k :: _ => (k : Int) | [] => -1
theorem gives_find4 (x y : PySem.Str) (i j : Int) (t u v w : Tok) : Gives (Builtin.«str.find» ⟨[.str x t, .str y u, .int i v, .int j w], []⟩) (.int (find4 x y i j)) := by
  show Gives (match Builtin.Str.occurrences x y (fromIndex x.length i) (min (fromIndex x.length j) x.length) 1 with | k :: _ => retInt k | [] => (do rule "str.find.not-found"; retInt (-1))) _
  unfold find4
  cases Builtin.Str.occurrences x y (fromIndex x.length i) (min (fromIndex x.length j) x.length) 1 with
  | nil => exact .rule (.of_eq rfl)
  | cons k _ => exact .of_eq rfl
theorem Cal.find4 {x y : PySem.Str} {i j : Int} : Cal C (.builtin "str.find") [.str x, .str y, .int i, .int j] (.int (find4 x y i j)) := by
  intro A s Z vs hA hP B hk hz r
  cases r with | cons r0 rn =>
  cases rn with | cons r1 rn =>
  cases rn with | cons r2 rn =>
  cases rn with | cons r3 rn =>
  cases rn; cases r0; cases r1; cases r2; cases r3
  exact call_gives F.slot_str_find (typeIs_str _ _ _) F.entry_str_find (F.args_str_find_4 _ _ _ _) (gives_find4 x y i j _ _ _ _) ⟨.tok s _, .int _ _⟩
theorem Cmp.notIn_str {x y : PySem.Str} : Cmp C .NotIn (.str y) (.str x) (!Txt.contains x y) := by
  intro A s Z v1 v2 hA _ _ r1 r2; cases r1; cases r2
  exact P.notIn_str ⟨.rfl' s, rfl⟩
end
end Mine
namespace Mine

/-- the n-th statement of the text, when it is a def -/
noncomputable def fnArgs (n : Nat) : Arguments := match PySem.Challenge.pw_re0050_01.main.body[n]? with
  | some (.FunctionDef _ a _ _ _ _ _ _ _ _) => a
  | _ => ⟨[], [], none, [], [], none, []⟩
noncomputable def fnBody (n : Nat) : List Stmt := match PySem.Challenge.pw_re0050_01.main.body[n]? with
  | some (.FunctionDef _ _ b _ _ _ _ _ _ _) => b
  | _ => []
noncomputable def fnScope (n : Nat) : Scope := match PySem.Challenge.pw_re0050_01.main.body[n]? with
  | some (.FunctionDef _ _ _ _ _ _ s _ _ _) => s
  | _ => ⟨.function, [], false, false, []⟩

/-- the heap at the call knows the def f -/
structure Known (C : Cx) (f : PySem.Str) (fa : Addr) (n : Nat) : Prop where
  g : C.G f = some (.ref fa)
  def_ : ∃ o pm cd doc, C.h₀.get? fa = some o ∧ o.data = .func (Calls.docDef f (fnArgs n) (fnBody n) (fnScope n) pm cd doc) ∧ C.h₀.CodeRec cd f

theorem Known.callee {C : Cx} {f : PySem.Str} {fa : Addr} {n : Nat} (K : Known C f fa n) : Callee C (.ref fa) := let ⟨_, _, _, _, ho, hd, _⟩ := K.def_; .fn ho hd
theorem Known.deeper {C : Cx} {f : PySem.Str} {fa : Addr} {n : Nat} (K : Known C f fa n) : Known C.deeper f fa n := ⟨K.g, K.def_⟩

theorem Known.cal {C : Cx} {f : PySem.Str} {fa : Addr} {n : Nat} {xs : List PySem.Str} {ds : List D} {d : D} (K : Known C f fa n) (hk : C.k ≤ 50)
    (hbind : ∀ (pm cd doc : Value) (vs : List Value), vs.length = ds.length → bindArgs (Calls.docDef f (fnArgs n) (fnBody n) (fnScope n) pm cd doc) ⟨vs, []⟩ = pure (xs.zip vs)) (hlen : xs.length = ds.length) (hnd : xs.Nodup) (hkinds : xs.all (fun x => (fnScope n).names.lookup x == some .local || (fnScope n).names.lookup x == some .cell) = true)
    (hco : (fnScope n).isCoroutine = false) (hgen : (fnScope n).isGenerator = false) (hkf : (fnScope n).kind = .function)
    (hex : Ex C.deeper (fnScope n) (params xs ds) (fnBody n) (.ret d)) : Cal C (.ref fa) ds d :=
  let ⟨_, pm, cd, doc, ho, hd, hc⟩ := K.def_
  Cal.fn ho hd hc rfl rfl rfl rfl hk (hbind pm cd doc) hlen hnd hkinds hco hgen hkf hex

theorem bind3 {fd : FuncData} {a b c : PySem.Str} (h : ∀ x y z : Value, bindArgs fd ⟨[x, y, z], []⟩ = pure [(a, x), (b, y), (c, z)]) : ∀ vs : List Value, vs.length = 3 → bindArgs fd ⟨vs, []⟩ = pure ([a, b, c].zip vs)
  | [x, y, z], _ => h x y z
theorem bind2 {fd : FuncData} {a b : PySem.Str} (h : ∀ x y : Value, bindArgs fd ⟨[x, y], []⟩ = pure [(a, x), (b, y)]) : ∀ vs : List Value, vs.length = 2 → bindArgs fd ⟨vs, []⟩ = pure ([a, b].zip vs)
  | [x, y], _ => h x y
theorem bind1 {fd : FuncData} {a : PySem.Str} (h : ∀ x : Value, bindArgs fd ⟨[x], []⟩ = pure [(a, x)]) : ∀ vs : List Value, vs.length = 1 → bindArgs fd ⟨vs, []⟩ = pure ([a].zip vs)
  | [x], _ => h x

noncomputable def yiqY (r g b : UInt64) : UInt64 := Float64.add (Float64.add (Float64.mul 0x3fd3333333333333 r) (Float64.mul 0x3fe2e147ae147ae1 g)) (Float64.mul 0x3fbc28f5c28f5c29 b)

noncomputable def yiqI (r g b : UInt64) : UInt64 := Float64.sub (Float64.mul 0x3fe7ae147ae147ae (Float64.sub r (yiqY r g b))) (Float64.mul 0x3fd147ae147ae148 (Float64.sub b (yiqY r g b)))
noncomputable def yiqQ (r g b : UInt64) : UInt64 := Float64.add (Float64.mul 0x3fdeb851eb851eb8 (Float64.sub r (yiqY r g b))) (Float64.mul 0x3fda3d70a3d70a3d (Float64.sub b (yiqY r g b)))

section
variable {C : Cx}
theorem yiq_ex (r g b : UInt64) : Ex C (fnScope 1) (params ["r", "g", "b"] [.flt r, .flt g, .flt b]) (fnBody 1) (.ret (.tup [.flt (yiqY r g b), .flt (yiqI r g b), .flt (yiqQ r g b)])) := by
  conv => arg 4; whnf
  refine Ex.cons (Ex1.assign (d := .flt (yiqY r g b)) (Ev.binop (Ev.binop (Ev.binop .flt (.name rfl) .mul_flt) (Ev.binop .flt (.name rfl) .mul_flt) .add_flt) (Ev.binop .flt (.name rfl) .mul_flt) .add_flt) rfl) ?_
  refine Ex.cons (Ex1.assign (d := .flt (yiqI r g b)) (Ev.binop (Ev.binop .flt (Ev.binop (.name rfl) (.name rfl) .sub_flt) .mul_flt) (Ev.binop .flt (Ev.binop (.name rfl) (.name rfl) .sub_flt) .mul_flt) .sub_flt) rfl) ?_
  refine Ex.cons (Ex1.assign (d := .flt (yiqQ r g b)) (Ev.binop (Ev.binop .flt (Ev.binop (.name rfl) (.name rfl) .sub_flt) .mul_flt) (Ev.binop .flt (Ev.binop (.name rfl) (.name rfl) .sub_flt) .mul_flt) .add_flt) rfl) ?_
  exact Ex.stop (Ex1.ret (Ev.tuple (.cons (.name rfl) (.cons (.name rfl) (.cons (.name rfl) .nil)))))
theorem yiq_cal {fa : Addr} (K : Known C "rgb_to_yiq" fa 1) (hk : C.k ≤ 50) (r g b : UInt64) : Cal C (.ref fa) [.flt r, .flt g, .flt b] (.tup [.flt (yiqY r g b), .flt (yiqI r g b), .flt (yiqQ r g b)]) :=
  K.cal hk (fun _ _ _ => bind3 fun _ _ _ => rfl) rfl (by decide) (by decide +kernel) rfl rfl rfl (yiq_ex (C := C.deeper) r g b)
end
end Mine
namespace Mine

noncomputable def hlsMax (r g b : UInt64) : UInt64 := best3 gtF r g b
noncomputable def hlsMin (r g b : UInt64) : UInt64 := best3 ltF r g b
noncomputable def hlsSum (r g b : UInt64) : UInt64 := Float64.add (hlsMax r g b) (hlsMin r g b)
noncomputable def hlsRange (r g b : UInt64) : UInt64 := Float64.sub (hlsMax r g b) (hlsMin r g b)
noncomputable def hlsL (r g b : UInt64) : UInt64 := Float64.div (hlsSum r g b) 0x4000000000000000
noncomputable def hlsUp (r g b : UInt64) : UInt64 := Float64.sub (Float64.sub 0x4000000000000000 (hlsMax r g b)) (hlsMin r g b)

section
variable {C : Cx}

/-- it returns three floats, the middle one l -/
noncomputable def ExT (C : Cx) (sc : Scope) (σ : St) (ss : List Stmt) (l : UInt64) : Prop := ∃ h s, Ex C sc σ ss (.ret (.tup [.flt h, .flt l, .flt s]))
theorem ExT.cons {sc : Scope} {σ σ' : St} {st : Stmt} {rest : List Stmt} {l : UInt64} (h1 : Ex1 C sc σ st (.next σ')) (h2 : ExT C sc σ' rest l) : ExT C sc σ (st :: rest) l := let ⟨h, s, x⟩ := h2; ⟨h, s, Ex.cons h1 x⟩

theorem ExT.any {sc : Scope} {σ : St} {x : PySem.Str} {st : Stmt} {rest : List Stmt} {l : UInt64} (h1 : ∃ u, Ex1 C sc σ st (.next (upd σ x (.flt u)))) (h2 : ∀ u, ExT C sc (upd σ x (.flt u)) rest l) : ExT C sc σ (st :: rest) l := let ⟨u, x⟩ := h1; ExT.cons x (h2 u)

theorem hls_ex (hmax : C.G "max" = some (.builtin "max")) (hmin : C.G "min" = some (.builtin "min")) (r g b : UInt64) (h1 : (Float64.cmp (hlsMin r g b) (hlsMax r g b) == some Ordering.eq) = false → Float64.isZero (hlsRange r g b) = false)
    (h2 : (Float64.cmp (hlsMin r g b) (hlsMax r g b) == some Ordering.eq) = false → Float64.isZero (hlsSum r g b) = false) (h3 : Float64.isZero (hlsUp r g b) = false) :
    ExT C (fnScope 2) (params ["r", "g", "b"] [.flt r, .flt g, .flt b]) (fnBody 2) (hlsL r g b) := by
  have two : Float64.isZero 0x4000000000000000 = false := by decide +kernel
  have six : Float64.isZero 0x4018000000000000 = false := by decide +kernel
  have onez : Float64.isZero 0x3ff0000000000000 = false := by decide +kernel
  conv => arg 4; whnf
  refine ExT.cons (Ex1.assign (d := .flt (hlsMax r g b)) (Ev.call (by decide +kernel) hmax (.builtin _) (.cons (.name rfl) (.cons (.name rfl) (.cons (.name rfl) .nil))) .maxF3) rfl) ?_
  refine ExT.cons (Ex1.assign (d := .flt (hlsMin r g b)) (Ev.call (by decide +kernel) hmin (.builtin _) (.cons (.name rfl) (.cons (.name rfl) (.cons (.name rfl) .nil))) .minF3) rfl) ?_
  refine ExT.cons (Ex1.assign (d := .flt (hlsSum r g b)) (Ev.binop (.name rfl) (.name rfl) .add_flt) rfl) ?_
  refine ExT.cons (Ex1.assign (d := .flt (hlsRange r g b)) (Ev.binop (.name rfl) (.name rfl) .sub_flt) rfl) ?_
  refine ExT.cons (Ex1.assign (d := .flt (hlsL r g b)) (Ev.binop (.name rfl) .flt (.div_flt two)) rfl) ?_
  cases hc : (Float64.cmp (hlsMin r g b) (hlsMax r g b) == some Ordering.eq)
  · have z1 := h1 hc
    have z2 := h2 hc
    refine ExT.cons (Ex1.iff (c := false) (Tst.conv (Tst.cmp (.name rfl) (.name rfl) .eq_flt) hc) (fun q => by cases q) fun _ => Ex.nil) ?_
    refine ExT.any (x := "s") ?_ fun s => ?_
    · cases hl : (Float64.cmp (hlsL r g b) 0x3fe0000000000000 == some Ordering.lt || Float64.cmp (hlsL r g b) 0x3fe0000000000000 == some Ordering.eq)
      · exact ⟨_, Ex1.iff (c := false) (Tst.conv (Tst.cmp (.name rfl) .flt .le_flt) hl) (fun q => by cases q) fun _ => Ex.cons (Ex1.assign (Ev.binop (.name rfl) (Ev.binop (Ev.binop .flt (.name rfl) .sub_flt) (.name rfl) .sub_flt) (.div_flt h3)) rfl) Ex.nil⟩
      · exact ⟨_, Ex1.iff (c := true) (Tst.conv (Tst.cmp (.name rfl) .flt .le_flt) hl) (fun _ => Ex.cons (Ex1.assign (Ev.binop (.name rfl) (.name rfl) (.div_flt z2)) rfl) Ex.nil) fun q => by cases q⟩
    refine ExT.cons (Ex1.assign (Ev.binop (Ev.binop (.name rfl) (.name rfl) .sub_flt) (.name rfl) (.div_flt z1)) rfl) ?_
    refine ExT.cons (Ex1.assign (Ev.binop (Ev.binop (.name rfl) (.name rfl) .sub_flt) (.name rfl) (.div_flt z1)) rfl) ?_
    refine ExT.cons (Ex1.assign (Ev.binop (Ev.binop (.name rfl) (.name rfl) .sub_flt) (.name rfl) (.div_flt z1)) rfl) ?_
    refine ExT.any (x := "h") ?_ fun u => ?_
    · cases hr : (Float64.cmp r (hlsMax r g b) == some Ordering.eq)
      · cases hg : (Float64.cmp g (hlsMax r g b) == some Ordering.eq)
        · exact ⟨_, Ex1.iff (c := false) (Tst.conv (Tst.cmp (.name rfl) (.name rfl) .eq_flt) hr) (fun q => by cases q) fun _ => Ex.cons (Ex1.iff (c := false) (Tst.conv (Tst.cmp (.name rfl) (.name rfl) .eq_flt) hg) (fun q => by cases q) fun _ =>
            Ex.cons (Ex1.assign (Ev.binop (Ev.binop .flt (.name rfl) .add_flt) (.name rfl) .sub_flt) rfl) Ex.nil) Ex.nil⟩
        · exact ⟨_, Ex1.iff (c := false) (Tst.conv (Tst.cmp (.name rfl) (.name rfl) .eq_flt) hr) (fun q => by cases q) fun _ => Ex.cons (Ex1.iff (c := true) (Tst.conv (Tst.cmp (.name rfl) (.name rfl) .eq_flt) hg) (fun _ =>
            Ex.cons (Ex1.assign (Ev.binop (Ev.binop .flt (.name rfl) .add_flt) (.name rfl) .sub_flt) rfl) Ex.nil) fun q => by cases q) Ex.nil⟩
      · exact ⟨_, Ex1.iff (c := true) (Tst.conv (Tst.cmp (.name rfl) (.name rfl) .eq_flt) hr) (fun _ => Ex.cons (Ex1.assign (Ev.binop (.name rfl) (.name rfl) .sub_flt) rfl) Ex.nil) fun q => by cases q⟩
    refine ExT.cons (Ex1.assign (Ev.binop (Ev.binop (.name rfl) .flt (.div_flt six)) .flt (.mod_flt onez)) rfl) ?_
    exact ⟨_, _, Ex.stop (Ex1.ret (Ev.tuple (.cons (.name rfl) (.cons (.name rfl) (.cons (.name rfl) .nil)))))⟩
  · exact ⟨_, _, Ex.stop (Ex1.iff (c := true) (Tst.conv (Tst.cmp (.name rfl) (.name rfl) .eq_flt) hc) (fun _ => Ex.stop (Ex1.ret (Ev.tuple (.cons .flt (.cons (.name rfl) (.cons .flt .nil)))))) fun q => by cases q)⟩
theorem hls_cal {fa : Addr} (K : Known C "rgb_to_hls" fa 2) (hk : C.k ≤ 50) (hmax : C.G "max" = some (.builtin "max")) (hmin : C.G "min" = some (.builtin "min")) (r g b : UInt64)
    (h1 : (Float64.cmp (hlsMin r g b) (hlsMax r g b) == some Ordering.eq) = false → Float64.isZero (hlsRange r g b) = false)
    (h2 : (Float64.cmp (hlsMin r g b) (hlsMax r g b) == some Ordering.eq) = false → Float64.isZero (hlsSum r g b) = false) (h3 : Float64.isZero (hlsUp r g b) = false) :
    ∃ h s, Cal C (.ref fa) [.flt r, .flt g, .flt b] (.tup [.flt h, .flt (hlsL r g b), .flt s]) := by
  obtain ⟨h, s, x⟩ := hls_ex (C := C.deeper) hmax hmin r g b h1 h2 h3
  exact ⟨h, s, K.cal hk (fun _ _ _ => bind3 fun _ _ _ => rfl) rfl (by decide) (by decide +kernel) rfl rfl rfl x⟩
end
end Mine
namespace Mine

noncomputable def six : UInt64 := 0x4018000000000000
noncomputable def fone : UInt64 := 0x3ff0000000000000
noncomputable def hsvP (s v : UInt64) : UInt64 := Float64.mul v (Float64.sub fone s)
noncomputable def hsvF (h : UInt64) (i : Int) : UInt64 := Float64.sub (Float64.mul h six) (Float64.ofInt i)
noncomputable def hsvQ (h s v : UInt64) (i : Int) : UInt64 := Float64.mul v (Float64.sub fone (Float64.mul s (hsvF h i)))
noncomputable def hsvT (h s v : UInt64) (i : Int) : UInt64 := Float64.mul v (Float64.sub fone (Float64.mul s (Float64.sub fone (hsvF h i))))
noncomputable def hsvOut (h s v : UInt64) (i : Int) : Option (UInt64 × UInt64 × UInt64) :=
  if i.fmod 6 = 0 then some (v, hsvT h s v i, hsvP s v)
  else if i.fmod 6 = 1 then some (hsvQ h s v i, v, hsvP s v)
  else if i.fmod 6 = 2 then some (hsvP s v, v, hsvT h s v i)
  else if i.fmod 6 = 3 then some (hsvP s v, hsvQ h s v i, v)
  else if i.fmod 6 = 4 then some (hsvT h s v i, hsvP s v, v)
  else if i.fmod 6 = 5 then some (v, hsvP s v, hsvQ h s v i) else none

section
variable {C : Cx}

theorem hsv_ex (hint : C.G "int" = some (.type "int")) (h s v : UInt64) (hs : (Float64.cmp s 0 == some Ordering.eq) = false) {sg : Bool} {m : Nat} {e : Int} (hd : Float64.decode (Float64.mul h six) = Float64.Num.fin sg m e)
    (hi : (Float64.truncOf sg m e).natAbs < 2 ^ 64) {a b c : UInt64} (ho : hsvOut h s v (Float64.truncOf sg m e) = some (a, b, c)) :
    Ex C (fnScope 3) (params ["h", "s", "v"] [.flt h, .flt s, .flt v]) (fnBody 3) (.ret (.tup [.flt a, .flt b, .flt c])) := by
  generalize hI : Float64.truncOf sg m e = i at *
  conv => arg 4; whnf
  refine Ex.cons (Ex1.iff (c := false) (Tst.conv (Tst.cmp (.name rfl) .flt .eq_flt) hs) (fun q => by cases q) fun _ => Ex.nil) ?_
  refine Ex.cons (Ex1.assign (d := .int i) (Ev.call (by decide +kernel) hint (.type _) (.cons (Ev.binop (.name rfl) .flt .mul_flt) .nil) ((Cal.int_flt hd).conv (by rw [hI]))) rfl) ?_
  refine Ex.cons (Ex1.assign (d := .flt (hsvF h i)) (Ev.binop (Ev.binop (.name rfl) .flt .mul_flt) (.name rfl) (.sub_fi hi)) rfl) ?_
  refine Ex.cons (Ex1.assign (d := .flt (hsvP s v)) (Ev.binop (.name rfl) (Ev.binop .flt (.name rfl) .sub_flt) .mul_flt) rfl) ?_
  refine Ex.cons (Ex1.assign (d := .flt (hsvQ h s v i)) (Ev.binop (.name rfl) (Ev.binop .flt (Ev.binop (.name rfl) (.name rfl) .mul_flt) .sub_flt) .mul_flt) rfl) ?_
  refine Ex.cons (Ex1.assign (d := .flt (hsvT h s v i)) (Ev.binop (.name rfl) (Ev.binop .flt (Ev.binop (.name rfl) (Ev.binop .flt (.name rfl) .sub_flt) .mul_flt) .sub_flt) .mul_flt) rfl) ?_
  refine Ex.cons (Ex1.assign (d := .int (i.fmod 6)) (Ev.binop (.name rfl) .int (.mod_int (by decide))) rfl) ?_
  unfold hsvOut at ho
  by_cases h0 : i.fmod 6 = 0
  · rw [if_pos h0] at ho; cases ho
    exact Ex.stop (Ex1.iff (c := true) (Tst.conv (Tst.cmp (.name rfl) .int .eq_int) (by simp [h0])) (fun _ => Ex.stop (Ex1.ret (Ev.tuple (.cons (.name rfl) (.cons (.name rfl) (.cons (.name rfl) .nil)))))) fun q => by cases q)
  rw [if_neg h0] at ho
  refine Ex.cons (Ex1.iff (c := false) (Tst.conv (Tst.cmp (.name rfl) .int .eq_int) (by simp [h0])) (fun q => by cases q) fun _ => Ex.nil) ?_
  by_cases h1 : i.fmod 6 = 1
  · rw [if_pos h1] at ho; cases ho
    exact Ex.stop (Ex1.iff (c := true) (Tst.conv (Tst.cmp (.name rfl) .int .eq_int) (by simp [h1])) (fun _ => Ex.stop (Ex1.ret (Ev.tuple (.cons (.name rfl) (.cons (.name rfl) (.cons (.name rfl) .nil)))))) fun q => by cases q)
  rw [if_neg h1] at ho
  refine Ex.cons (Ex1.iff (c := false) (Tst.conv (Tst.cmp (.name rfl) .int .eq_int) (by simp [h1])) (fun q => by cases q) fun _ => Ex.nil) ?_
  by_cases h2 : i.fmod 6 = 2
  · rw [if_pos h2] at ho; cases ho
    exact Ex.stop (Ex1.iff (c := true) (Tst.conv (Tst.cmp (.name rfl) .int .eq_int) (by simp [h2])) (fun _ => Ex.stop (Ex1.ret (Ev.tuple (.cons (.name rfl) (.cons (.name rfl) (.cons (.name rfl) .nil)))))) fun q => by cases q)
  rw [if_neg h2] at ho
  refine Ex.cons (Ex1.iff (c := false) (Tst.conv (Tst.cmp (.name rfl) .int .eq_int) (by simp [h2])) (fun q => by cases q) fun _ => Ex.nil) ?_
  by_cases h3 : i.fmod 6 = 3
  · rw [if_pos h3] at ho; cases ho
    exact Ex.stop (Ex1.iff (c := true) (Tst.conv (Tst.cmp (.name rfl) .int .eq_int) (by simp [h3])) (fun _ => Ex.stop (Ex1.ret (Ev.tuple (.cons (.name rfl) (.cons (.name rfl) (.cons (.name rfl) .nil)))))) fun q => by cases q)
  rw [if_neg h3] at ho
  refine Ex.cons (Ex1.iff (c := false) (Tst.conv (Tst.cmp (.name rfl) .int .eq_int) (by simp [h3])) (fun q => by cases q) fun _ => Ex.nil) ?_
  by_cases h4 : i.fmod 6 = 4
  · rw [if_pos h4] at ho; cases ho
    exact Ex.stop (Ex1.iff (c := true) (Tst.conv (Tst.cmp (.name rfl) .int .eq_int) (by simp [h4])) (fun _ => Ex.stop (Ex1.ret (Ev.tuple (.cons (.name rfl) (.cons (.name rfl) (.cons (.name rfl) .nil)))))) fun q => by cases q)
  rw [if_neg h4] at ho
  refine Ex.cons (Ex1.iff (c := false) (Tst.conv (Tst.cmp (.name rfl) .int .eq_int) (by simp [h4])) (fun q => by cases q) fun _ => Ex.nil) ?_
  by_cases h5 : i.fmod 6 = 5
  · rw [if_pos h5] at ho; cases ho
    exact Ex.stop (Ex1.iff (c := true) (Tst.conv (Tst.cmp (.name rfl) .int .eq_int) (by simp [h5])) (fun _ => Ex.stop (Ex1.ret (Ev.tuple (.cons (.name rfl) (.cons (.name rfl) (.cons (.name rfl) .nil)))))) fun q => by cases q)
  rw [if_neg h5] at ho
  cases ho
theorem hsv_cal {fa : Addr} (K : Known C "hsv_to_rgb" fa 3) (hk : C.k ≤ 50) (hint : C.G "int" = some (.type "int")) (h s v : UInt64) (hs : (Float64.cmp s 0 == some Ordering.eq) = false) {sg : Bool} {m : Nat} {e : Int} (hd : Float64.decode (Float64.mul h six) = Float64.Num.fin sg m e)
    (hi : (Float64.truncOf sg m e).natAbs < 2 ^ 64) {a b c : UInt64} (ho : hsvOut h s v (Float64.truncOf sg m e) = some (a, b, c)) : Cal C (.ref fa) [.flt h, .flt s, .flt v] (.tup [.flt a, .flt b, .flt c]) :=
  K.cal hk (fun _ _ _ => bind3 fun _ _ _ => rfl) rfl (by decide) (by decide +kernel) rfl rfl rfl (hsv_ex (C := C.deeper) hint h s v hs hd hi ho)
end
end Mine
namespace Mine

noncomputable def Sub (σ τ : St) : Prop := ∀ x d, σ x = some d → τ x = some d
noncomputable def ini : St := fun _ => none
theorem Sub.ini {τ : St} : Sub ini τ := fun _ _ e => by cases e
theorem Sub.upd {σ τ : St} {x : PySem.Str} {d : D} (h : τ x = some d) (r : Sub σ τ) : Sub (upd σ x d) τ := fun y e q => by
  unfold Mine.upd at q
  by_cases hy : y = x
  · rw [if_pos hy] at q; cases q; rw [hy]; exact h
  · rw [if_neg hy] at q; exact r y e q

section
variable {C : Cx} {env : Env} {h : Heap} {X Z : Addr → Prop} {sc : Scope} {σ τ : St}

theorem FView.sub (F : FView C env h X Z τ) (hs : Sub σ τ) : FView C env h X Z σ ∧ (∀ a, Own env h σ a → Own env h τ a) := by
  have ownSub : ∀ b, Own env h σ b → Own env h τ b := fun b ⟨y, ds, e, q⟩ => ⟨y, ds, hs _ _ e, q⟩
  have zoneSub : ∀ b, Zone env h X Z σ b → Zone env h X Z τ b := fun b q => q.imp id (Or.imp id (ownSub b))
  exact ⟨⟨⟨F.view.base, F.view.keep, F.view.kind, F.view.glb, F.view.bui, fun b q => F.view.zin b (zoneSub b q), fun y dy hy => by
    obtain ⟨v, hv, r⟩ := F.view.var y dy (hs _ _ hy)
    exact ⟨v, hv, r.move (fun _ _ _ e => e) (fun b q => .inl (zoneSub b q)) fun _ _ _ _ _ e => e⟩⟩, F.loc, F.zloc, F.cel, F.celk, F.apart, F.znew, fun b q => F.ownz b (ownSub b q), fun y z ds es b hy hz sy sz => F.ownap y z ds es b (hs _ _ hy) (hs _ _ hz) sy sz⟩, ownSub⟩

/-- forget some of what is known behind -/
theorem Ex.weak {ss : List Stmt} {σ' : St} (h : Ex C sc σ ss (.next τ)) (hs : Sub σ' τ) : Ex C sc σ ss (.next σ') := by
  intro env A s X Z he hA F
  refine wpAny_mono (h env A s X Z he hA F) (fun f s' q => ?_) fun _ _ q => q.elim
  obtain ⟨h', tk, rfl, q⟩ := q
  cases f with
  | next =>
    obtain ⟨F', own'⟩ := q.1.sub hs
    exact ⟨h', tk, rfl, F', ⟨q.2.stay, q.2.live, fun a qa => q.2.own a (own' a qa)⟩⟩
  | _ => exact q.elim
theorem Ex1.weak {st : Stmt} {σ' : St} (h : Ex1 C sc σ st (.next τ)) (hs : Sub σ' τ) : Ex1 C sc σ st (.next σ') := by
  intro env A s X Z he hA F
  refine wpAny_mono (h env A s X Z he hA F) (fun f s' q => ?_) fun _ _ q => q.elim
  obtain ⟨h', tk, rfl, q⟩ := q
  cases f with
  | next =>
    obtain ⟨F', own'⟩ := q.1.sub hs
    exact ⟨h', tk, rfl, F', ⟨q.2.stay, q.2.live, fun a qa => q.2.own a (own' a qa)⟩⟩
  | _ => exact q.elim
theorem Ex.weakBrk {ss : List Stmt} {σ' : St} (h : Ex C sc σ ss (.brk τ)) (hs : Sub σ' τ) : Ex C sc σ ss (.brk σ') := by
  intro env A s X Z he hA F
  refine wpAny_mono (h env A s X Z he hA F) (fun f s' q => ?_) fun _ _ q => q.elim
  obtain ⟨h', tk, rfl, q⟩ := q
  cases f with
  | brk =>
    obtain ⟨F', own'⟩ := q.1.sub hs
    exact ⟨h', tk, rfl, F', ⟨q.2.stay, q.2.live, fun a qa => q.2.own a (own' a qa)⟩⟩
  | _ => exact q.elim
/-- know less ahead -/
theorem Ex.less {ss : List Stmt} {o : Out} (hs : Sub σ τ) (h : Ex C sc σ ss o) : Ex C sc τ ss o := by
  intro env A s X Z he hA F
  obtain ⟨F', own'⟩ := F.sub hs
  refine wpAny_mono (h env A s X Z he hA ⟨F', F.tk⟩) (fun f s' q => ?_) fun _ _ q => q.elim
  obtain ⟨h', tk, rfl, q⟩ := q
  have S : Stp env Z s.heap τ s.heap σ := ⟨fun _ _ _ _ e => e, fun _ q => q, fun a q => .inl (own' a q)⟩
  exact ⟨h', tk, rfl, OutOk.tr S q⟩
end

-- _law_parts
noncomputable def partOf (x c : Int) : Int := (x.fdiv 8).fmod 4 * (8 - ((x.fdiv 32).fmod 2 + 1) * min 4 (max 0 (min ((3 * x - c).fmod 24) ((c - 3 * x).fmod 24) - 4)))
noncomputable def partsOf (x : Int) : List Int := [partOf x 0, partOf x 8, partOf x 16]

section
variable {C : Cx}
theorem parts_ex (hmax : C.G "max" = some (.builtin "max")) (hmin : C.G "min" = some (.builtin "min")) (x : Int) :
    Ex C (fnScope 11) (params ["x"] [.int x]) (fnBody 11) (.ret (.lst ((partsOf x).map .int))) := by
  conv => arg 4; whnf
  refine Ex.cons (Ex1.own rfl) ?_
  refine Ex.cons (Ex1.for (fun i => upd (upd ini "x" (.int x)) "parts" (.own (((partsOf x).take i).map .int))) (Ev.tuple (.cons .int (.cons .int (.cons .int .nil)))) (.tup _) (by decide) rfl fun i d hd => ?_) ?_
  · obtain ⟨c, hc, hci⟩ : ∃ c : Int, d = .int c ∧ (partsOf x)[i]? = some (partOf x c) := by
      match i, hd with
      | 0, hd => cases hd; exact ⟨0, rfl, rfl⟩
      | 1, hd => cases hd; exact ⟨8, rfl, rfl⟩
      | 2, hd => cases hd; exact ⟨16, rfl, rfl⟩
      | (n + 3), hd => cases hd
    subst hc
    refine ⟨_, Asg.name rfl, Ex.weak (Ex.cons (Ex1.assign (Ev.call (by decide +kernel) hmin (.builtin _) (.cons (Ev.binop (Ev.binop (Ev.binop .int (.name rfl) (.mul_int (.inl (by decide)))) (.name rfl) .sub_int) .int (.mod_int (by decide))) (.cons (Ev.binop (Ev.binop (.name rfl) (Ev.binop .int (.name rfl) (.mul_int (.inl (by decide)))) .sub_int) .int (.mod_int (by decide))) .nil)) .min2) rfl) (Ex.cons (Ex1.append rfl
        (Ev.binop (Ev.binop (Ev.binop (.name rfl) .int (.floordiv_int (by decide) (by decide))) .int (.mod_int (by decide))) (Ev.binop .int (Ev.binop (Ev.binop (Ev.binop (Ev.binop (.name rfl) .int (.floordiv_int (by decide) (by decide))) .int (.mod_int (by decide))) .int .add_int) (Ev.call (by decide +kernel) hmin (.builtin _) (.cons .int (.cons (Ev.call (by decide +kernel) hmax (.builtin _) (.cons .int (.cons (Ev.binop (.name rfl) .int .sub_int) .nil)) .max2) .nil)) .min2) (.mul_int ?_)) .sub_int) (.mul_int ?_)) ?_) Ex.nil)) (.upd ?_ (.upd rfl .ini))⟩
    · exact .inr (by omega)
    · refine .inl ?_
      have h1 := Int.fmod_nonneg_of_pos (x.fdiv 8) (b := 4) (by decide)
      have h2 := Int.fmod_lt_of_pos (x.fdiv 8) (b := 4) (by decide)
      omega
    · rw [List.length_map, List.length_take]; have : (partsOf x).length = 3 := rfl; omega
    · show some (D.own _) = some (D.own _)
      rw [List.take_add_one, hci]; simp [partOf]
  · exact Ex.freeze (x := "parts") rfl (Ex.stop (Ex1.ret (.name rfl)))
theorem parts_cal {fa : Addr} (K : Known C "_law_parts" fa 11) (hk : C.k ≤ 50) (hmax : C.G "max" = some (.builtin "max")) (hmin : C.G "min" = some (.builtin "min")) (x : Int) :
    Cal C (.ref fa) [.int x] (.lst ((partsOf x).map .int)) :=
  K.cal hk (fun _ _ _ => bind1 fun _ => rfl) rfl (by decide) (by decide +kernel) rfl rfl rfl (parts_ex (C := C.deeper) hmax hmin x)
end
end Mine
namespace Mine

noncomputable def sum1 (n : Nat) (f : Nat → Int) : Int := ((List.range n).map f).sum
noncomputable def at0 (l : List Int) (k : Nat) : Int := l.getD k 0
noncomputable def friends (hs fs gs : List Int) : Bool :=
  decide (sum1 hs.length (fun k => at0 hs k * at0 fs k) * sum1 hs.length (fun k => at0 hs k * at0 gs k) ≤ hs.sum * sum1 hs.length (fun k => at0 hs k * at0 fs k * at0 gs k))

theorem at0_get {l : List Int} {k : Nat} (h : k < l.length) : (l.map D.int)[k]? = some (.int (at0 l k)) := by
  simp [at0, h, List.getD_eq_getElem?_getD]

/-- small numbers -/
noncomputable def Small (B : Nat) (l : List Int) : Prop := ∀ x ∈ l, x.natAbs ≤ B
theorem Small.at {B : Nat} {l : List Int} (h : Small B l) (k : Nat) : (at0 l k).natAbs ≤ B := by
  unfold at0
  rw [List.getD_eq_getElem?_getD]
  cases e : l[k]? with
  | none => simp
  | some x => exact h x (List.mem_of_getElem? e)
theorem sum_natAbs_le {B : Nat} : ∀ {l : List Int}, (∀ x ∈ l, x.natAbs ≤ B) → l.sum.natAbs ≤ l.length * B
  | [], _ => by simp
  | x :: l, h => by
    have h1 := h x List.mem_cons_self
    have h2 := sum_natAbs_le (l := l) fun y hy => h y (List.mem_cons_of_mem _ hy)
    rw [List.sum_cons, List.length_cons, Nat.succ_mul]
    omega

section
variable {C : Cx}
theorem friends_ex (hlen : C.G "len" = some (.builtin "len")) (hsum : C.G "sum" = some (.builtin "sum")) (hrange : C.G "range" = some (.type "range")) {hs fs gs : List Int} (e1 : fs.length = hs.length) (e2 : gs.length = hs.length) (hn : hs.length ≤ 1000)
    (b0 : Small 100000 hs) (b1 : Small 100000 fs) (b2 : Small 100000 gs) :
    Ex C (fnScope 12) (params ["held", "first", "second"] [.lst (hs.map .int), .lst (fs.map .int), .lst (gs.map .int)]) (fnBody 12) (.ret (.bool (friends hs fs gs))) := by
  conv => arg 4; whnf
  have m2 : ∀ {a b : Int}, a.natAbs ≤ 100000 → a.natAbs < 2 ^ 64 ∨ b.natAbs < 2 ^ 64 := fun h => .inl (by omega)
  have m2r : ∀ {a b : Int}, b.natAbs ≤ 100000 → a.natAbs < 2 ^ 64 ∨ b.natAbs < 2 ^ 64 := fun h => .inr (by omega)
  refine Ex.cons (Ex1.assign (d := .rng hs.length) (Ev.call (by decide +kernel) hrange (.type _) (.cons (Ev.call (by decide +kernel) hlen (.builtin _) (.cons (.name rfl) .nil) ((Cal.len_lst (by rw [List.length_map]; omega)).conv (by rw [List.length_map]))) .nil) .range) rfl) ?_
  refine Ex.cons (Ex1.assign (d := .int (sum1 hs.length (fun k => at0 hs k * at0 fs k * at0 gs k))) (Ev.call (by decide +kernel) hsum (.builtin _) (.cons (Ev.conv (Ev.compN (n := hs.length) (fun k => .int (at0 hs k * at0 fs k * at0 gs k)) (by decide +kernel) rfl (.name rfl) (by omega) (fun k hk =>
      Ev.binop (Ev.binop (Ev.item (.name rfl) (.name rfl) (by omega) (by omega) (by rw [Int.toNat_natCast]; exact at0_get hk)) (Ev.item (.name rfl) (.name rfl) (by omega) (by omega) (by rw [Int.toNat_natCast]; exact at0_get (e1 ▸ hk))) (.mul_int (m2 (b0.at k)))) (Ev.item (.name rfl) (.name rfl) (by omega) (by omega) (by rw [Int.toNat_natCast]; exact at0_get (e2 ▸ hk))) (.mul_int (m2r (b2.at k))))) (d' := .lst (((List.range hs.length).map (fun k => at0 hs k * at0 fs k * at0 gs k)).map .int)) (by rw [List.map_map]; rfl)) .nil) .sum) rfl) ?_
  have s0 : hs.sum.natAbs < 2 ^ 64 := by
    have := sum_natAbs_le b0
    have h2 : hs.length * 100000 ≤ 1000 * 100000 := Nat.mul_le_mul_right _ hn
    omega
  have s1 : (sum1 hs.length (fun k => at0 hs k * at0 fs k)).natAbs < 2 ^ 64 := by
    have : ∀ x ∈ (List.range hs.length).map (fun k => at0 hs k * at0 fs k), x.natAbs ≤ 100000 * 100000 := fun x hx => by
      obtain ⟨k, _, rfl⟩ := List.mem_map.mp hx
      rw [Int.natAbs_mul]; exact Nat.mul_le_mul (b0.at k) (b1.at k)
    have h1 := sum_natAbs_le this
    rw [List.length_map, List.length_range] at h1
    have h2 : hs.length * (100000 * 100000) ≤ 1000 * (100000 * 100000) := Nat.mul_le_mul_right _ hn
    unfold sum1
    omega
  refine Ex.stop (Ex1.ret (Ev.cmp (Ev.binop (Ev.call (by decide +kernel) hsum (.builtin _) (.cons (.name rfl) .nil) .sum) (.name rfl) (.mul_int (.inl s0))) (Ev.binop (Ev.call (by decide +kernel) hsum (.builtin _) (.cons (Ev.conv (Ev.compN (n := hs.length) (fun k => .int (at0 hs k * at0 fs k)) (by decide +kernel) rfl (.name rfl) (by omega) (fun k hk =>
      Ev.binop (Ev.item (.name rfl) (.name rfl) (by omega) (by omega) (by rw [Int.toNat_natCast]; exact at0_get hk)) (Ev.item (.name rfl) (.name rfl) (by omega) (by omega) (by rw [Int.toNat_natCast]; exact at0_get (e1 ▸ hk))) (.mul_int (m2 (b0.at k))))) (d' := .lst (((List.range hs.length).map (fun k => at0 hs k * at0 fs k)).map .int)) (by rw [List.map_map]; rfl)) .nil) .sum)
    (Ev.call (by decide +kernel) hsum (.builtin _) (.cons (Ev.conv (Ev.compN (n := hs.length) (fun k => .int (at0 hs k * at0 gs k)) (by decide +kernel) rfl (.name rfl) (by omega) (fun k hk =>
      Ev.binop (Ev.item (.name rfl) (.name rfl) (by omega) (by omega) (by rw [Int.toNat_natCast]; exact at0_get hk)) (Ev.item (.name rfl) (.name rfl) (by omega) (by omega) (by rw [Int.toNat_natCast]; exact at0_get (e2 ▸ hk))) (.mul_int (m2 (b0.at k))))) (d' := .lst (((List.range hs.length).map (fun k => at0 hs k * at0 gs k)).map .int)) (by rw [List.map_map]; rfl)) .nil) .sum) (.mul_int (.inl s1))) .ge_int))
theorem friends_cal {fa : Addr} (K : Known C "_law_friends" fa 12) (hk : C.k ≤ 50) (hlen : C.G "len" = some (.builtin "len")) (hsum : C.G "sum" = some (.builtin "sum")) (hrange : C.G "range" = some (.type "range")) {hs fs gs : List Int} (e1 : fs.length = hs.length) (e2 : gs.length = hs.length) (hn : hs.length ≤ 1000)
    (b0 : Small 100000 hs) (b1 : Small 100000 fs) (b2 : Small 100000 gs) : Cal C (.ref fa) [.lst (hs.map .int), .lst (fs.map .int), .lst (gs.map .int)] (.bool (friends hs fs gs)) :=
  K.cal hk (fun _ _ _ => bind3 fun _ _ _ => rfl) rfl (by decide) (by decide +kernel) rfl rfl rfl (friends_ex (C := C.deeper) hlen hsum hrange e1 e2 hn b0 b1 b2)
end
end Mine
namespace Mine

/-- a table of the top that has ints to texts -/
structure Table (C : Cx) (x : PySem.Str) (d : Addr) (T : List (PyData × PyData)) : Prop where
  g : C.G x = some (.ref d)
  tab : IntTab C.prog C.w C.h₀ d T

noncomputable def flagNames : List (Nat × PySem.Str) := [(1, "OPTIMIZED"), (2, "NEWLOCALS"), (4, "VARARGS"), (8, "VARKEYWORDS"), (16, "NESTED"), (32, "GENERATOR"), (64, "NOFREE"), (128, "COROUTINE"), (256, "ITERABLE_COROUTINE"), (512, "ASYNC_GENERATOR")]
noncomputable def flagTab : List (PyData × PyData) := flagNames.map fun p => (.int p.1, .str p.2)

section
variable {C : Cx} {sc : Scope} {σ : St}

theorem Ev.tabGet {x : PySem.Str} {d : Addr} {T : List (PyData × PyData)} {p apos pos : Pos} {e1 e2 : PySem.Expr} {i : Int} {y z : PySem.Str} (H : Table C x d T) (hx : sc.names.lookup x = some .globalImplicit) (h1 : Ev C sc σ e1 (.int i)) (h2 : Ev C sc σ e2 (.str y)) (hl : (Spec.lookup (.int i) T).getD (.str y) = .str z)
    (hsh : MethShape (.Name x p) "get" apos pos [e1, e2]) (hd : (x == ("__debug__" : PySem.Str)) = false := by decide) (hs1 : notStar e1 = true := by rfl) (hs2 : notStar e2 = true := by rfl) :
    Ev C sc σ (.Call (.Attribute (.Name x p) "get" apos) [e1, e2] [] pos) (.str z) := by
  intro env A s Z he hA V
  obtain ⟨pl, hpl⟩ := hsh env
  refine MethodCall_ (load_glob V (by rw [he]; exact hx) H.g ?_ hd) hpl
  refine getMethod_intTab_get (H.tab.keep V.keep) ?_
  refine callWith_method1 ((Evs.cons h1 (Evs.cons h2 Evs.nil hs2) hs1).then he hA V fun vs s1 k1 V1 r1 => ?_) (starEach_cons hs1) (plain_args (by simp [hs2]))
  cases r1 with | cons r0 rn =>
  cases rn with | cons r2 rn =>
  cases rn; cases r0; cases r2
  refine call_get2_intTab (H.tab.keep V1.keep) (.str _ _) fun v hv => ?_
  rw [hl] at hv
  obtain ⟨t, rfl⟩ := hv.str_inv
  exact ⟨k1.tr (.tok s1 _), .str _ _⟩
end

noncomputable def flagNm (i : Nat) : PySem.Str := ((flagNames[i]?).map (·.2)).getD ""
noncomputable def fl (c i : Nat) : Int := (((c >>> i) <<< i : Nat) : Int)
noncomputable def nm (c i : Nat) : List PySem.Str := ((List.range i).filter fun j => c.testBit j).map flagNm

theorem fl_facts : ∀ c < 32, ∀ i < 32, (Builtin.bitAnd (fl c i) (1 * 2 ^ i) != 0) = c.testBit i ∧ (c.testBit i = true → Builtin.bitXor (fl c i) (1 * 2 ^ i) = fl c (i + 1) ∧ i < 5) ∧ (c.testBit i = false → fl c (i + 1) = fl c i) ∧ (i < c.log2 → fl c (i + 1) ≠ 0) := by decide +kernel
theorem fl_last : ∀ c < 32, 0 < c → c.testBit c.log2 = true ∧ fl c (c.log2 + 1) = 0 ∧ c.log2 < 32 := by decide +kernel
theorem flag_facts : ∀ i < 5, (baseText "0x" 16 (1 * 2 ^ i)).length ≤ 100 ∧ Spec.lookup (.int (1 * 2 ^ i)) flagTab = some (.str (flagNm i)) := by
  intro i hi
  match i, hi with
  | 0, _ => exact ⟨by decide +kernel, by rfl⟩
  | 1, _ => exact ⟨by decide +kernel, by rfl⟩
  | 2, _ => exact ⟨by decide +kernel, by rfl⟩
  | 3, _ => exact ⟨by decide +kernel, by rfl⟩
  | 4, _ => exact ⟨by decide +kernel, by rfl⟩

noncomputable def flagText (c : Nat) : PySem.Str := if c = 0 then Txt.join ", " [baseText "0x" 16 0] else Txt.join ", " (nm c (c.log2 + 1))

theorem nm_succ (c i : Nat) : nm c (i + 1) = if c.testBit i then nm c i ++ [flagNm i] else nm c i := by
  unfold nm
  rw [List.range_succ, List.filter_append]
  cases h : c.testBit i <;> simp [h]

theorem join_facts : ∀ c < 32, JoinOk ", " (nm c (c.log2 + 1)) = true := by decide +kernel

section
variable {C : Cx}
noncomputable def flSt (c i : Nat) : St := upd (upd ini "flags" (.int (fl c i))) "names" (.own ((nm c i).map .str))

theorem flags_ex {d : Addr} (H : Table C "COMPILER_FLAG_NAMES" d flagTab) (hrange : C.G "range" = some (.type "range")) (hhex : C.G "hex" = some (.builtin "hex")) (c : Nat) (hc : c < 32) :
    Ex C (fnScope 6) (params ["flags"] [.int c]) (fnBody 6) (.ret (.str (flagText c))) := by
  conv => arg 4; whnf
  refine Ex.cons (Ex1.own rfl) ?_
  have start : flSt c 0 = upd (params ["flags"] [.int c]) "names" (.own []) := by
    have : fl c 0 = (c : Int) := by simp [fl]
    unfold flSt; rw [this]; rfl
  have hpow : ∀ i : Nat, ((i : Int)).toNat = i := fun i => Int.toNat_natCast i
  -- the head of a turn
  have shl : ∀ (i : Nat) (σ : St), σ "i" = some (.int (i : Int)) → i < 32 → ∀ (p1 p2 p3 : Pos), Ev C (fnScope 6) σ (.BinOp (.Constant (.int 1) 0 p1) .LShift (.Name "i" p2) p3) (.int (1 * 2 ^ i)) := fun i σ hi hlt p1 p2 p3 =>
    Ev.conv (Ev.binop .int (.name hi) (.shl_int (by omega) (by omega) (by decide))) (by rw [hpow])
  have get : ∀ (i : Nat) (σ : St), σ "flag" = some (.int (1 * 2 ^ i)) → i < 5 → ∀ (p apos pos p2 p3 p4 p5 : Pos), MethShape (.Name "COMPILER_FLAG_NAMES" p) "get" apos pos [.Name "flag" p2, .Call (.Name "hex" p3) [.Name "flag" p4] [] p5] →
      Ev C (fnScope 6) σ (.Call (.Attribute (.Name "COMPILER_FLAG_NAMES" p) "get" apos) [.Name "flag" p2, .Call (.Name "hex" p3) [.Name "flag" p4] [] p5] [] pos) (.str (flagNm i)) := fun i σ hf hlt p apos pos p2 p3 p4 p5 hsh => by
    obtain ⟨f1, f2⟩ := flag_facts i hlt
    refine Ev.tabGet H (by decide +kernel) (.name hf) (Ev.call (by decide +kernel) hhex (.builtin _) (.cons (.name hf) .nil) (.hex (Nat.le_trans f1 (by decide)))) ?_ hsh
    rw [f2]; rfl
  rcases Nat.eq_zero_or_pos c with h0 | hpos
  · subst h0
    have hfz : ∀ i, fl 0 i = 0 := fun i => by simp [fl]
    have hnz : ∀ i, nm 0 i = [] := fun i => by simp [nm]
    refine Ex.cons (Ex1.forN (flSt 0) 32 (Ev.call (by decide +kernel) hrange (.type _) (.cons .int .nil) .range) (.rng 32 (by decide)) (by simp) start (by simp) (fun i dd hi hd => ?_) (.all (by simp) (Ex.cons (Ex1.append rfl (Ev.call (by decide +kernel) hhex (.builtin _) (.cons (.name rfl) .nil) (.hex ?_)) ?_) Ex.nil))) ?_
    · have hdd : dd = .int (i : Int) := by simp [hi] at hd; exact hd.symm
      subst hdd
      refine ⟨_, Asg.name rfl, Ex.weak (Ex.cons (Ex1.assign (shl i _ rfl hi _ _ _) rfl) (Ex.cons (Ex1.iff (c := false) (Tst.conv (Tst.val (Ev.binop (.name rfl) (.name rfl) .and_int) (.int _)) (by rw [(fl_facts 0 (by decide) i hi).1]; simp)) (fun q => by cases q) fun _ => Ex.nil) Ex.nil)) (.upd ?_ (.upd ?_ .ini))⟩
      · show some (D.own _) = some (D.own _); rw [hnz, hnz]
      · show some (D.int _) = some (D.int _); rw [hfz, hfz]
    · rw [hfz]; decide +kernel
    · rw [hnz]; decide
    · refine Ex.freeze (x := "names") rfl ?_
      have e : (D.lst (((nm 0 32).map .str) ++ [.str (baseText "0x" 16 (fl 0 32))])) = .lst ([baseText "0x" 16 0].map .str) := by rw [hnz, hfz]; rfl
      refine Ex.stop (Ex1.ret (Ev.join .str (.cons (Ev.conv (.name rfl) e) .nil) (Cal.join (by decide +kernel)) (fun _ => ⟨_, rfl⟩)))
  · obtain ⟨l1, l2, l3⟩ := fl_last c hc hpos
    refine Ex.cons (Ex1.forN (flSt c) c.log2 (Ev.call (by decide +kernel) hrange (.type _) (.cons .int .nil) .range) (.rng 32 (by decide)) (by simp) start (by simp; omega) (fun i dd hi hd => ?_) (.brk (d := .int (c.log2 : Int)) (σ' := upd (upd ini "flags" (.int (fl c (c.log2 + 1)))) "names" (.own ((nm c (c.log2 + 1)).map .str))) (by simp [l3]) (Asg.name rfl) ?_)) ?_
    · have hi32 : i < 32 := by omega
      have hdd : dd = .int (i : Int) := by simp [hi32] at hd; exact hd.symm
      subst hdd
      obtain ⟨f1, f2, f3, f4⟩ := fl_facts c hc i hi32
      have f4 := f4 hi
      refine ⟨_, Asg.name rfl, Ex.cons (Ex1.assign (shl i _ rfl hi32 _ _ _) rfl) ?_⟩
      cases hb : c.testBit i
      · have f3 := f3 hb
        refine Ex.weak (Ex.cons (Ex1.iff (c := false) (Tst.conv (Tst.val (Ev.binop (.name rfl) (.name rfl) .and_int) (.int _)) (by rw [f1, hb])) (fun q => by cases q) fun _ => Ex.nil) Ex.nil) (.upd ?_ (.upd ?_ .ini))
        · show some (D.own _) = some (D.own _); rw [nm_succ, hb]; rfl
        · show some (D.int _) = some (D.int _); rw [f3]
      · obtain ⟨f2, f5⟩ := f2 hb
        have hlen : ((nm c i).map D.str).length ≤ 2 ^ 24 := by
          rw [List.length_map]; unfold nm; rw [List.length_map]
          have := List.length_filter_le (fun j => c.testBit j) (List.range i)
          rw [List.length_range] at this; omega
        refine Ex.weak (Ex.cons (Ex1.iff (c := true) (Tst.conv (Tst.val (Ev.binop (.name rfl) (.name rfl) .and_int) (.int _)) (by rw [f1, hb])) (fun _ => Ex.cons (Ex1.append rfl (get i _ rfl f5 _ _ _ _ _ _ _ (fun _ => ⟨_, rfl⟩)) hlen) (Ex.cons (Ex1.aug rfl (.name rfl) .xor_int rfl) (Ex.cons (Ex1.iff (c := false) (Tst.conv (Tst.not (Tst.val (.name rfl) (.int _))) (by rw [f2]; simpa using f4)) (fun q => by cases q) fun _ => Ex.nil) Ex.nil))) fun q => by cases q) Ex.nil) (.upd ?_ (.upd ?_ .ini))
        · show some (D.own _) = some (D.own _); rw [nm_succ, hb]; simp
        · show some (D.int _) = some (D.int _); rw [f2]
    · obtain ⟨f1, f2, f3, f4⟩ := fl_facts c hc c.log2 l3
      obtain ⟨f2, f5⟩ := f2 l1
      have hlen : ((nm c c.log2).map D.str).length ≤ 2 ^ 24 := by
        rw [List.length_map]; unfold nm; rw [List.length_map]
        have := List.length_filter_le (fun j => c.testBit j) (List.range c.log2)
        rw [List.length_range] at this; omega
      refine Ex.cons (Ex1.assign (shl c.log2 _ rfl l3 _ _ _) rfl) ?_
      refine Ex.stop (Ex1.iff (c := true) (Tst.conv (Tst.val (Ev.binop (.name rfl) (.name rfl) .and_int) (.int _)) (by rw [f1, l1])) (fun _ => Ex.cons (Ex1.append rfl (get c.log2 _ rfl f5 _ _ _ _ _ _ _ (fun _ => ⟨_, rfl⟩)) hlen) (Ex.cons (Ex1.aug rfl (.name rfl) .xor_int rfl) (Ex.stop (Ex1.iff (c := true) (Tst.conv (Tst.not (Tst.val (.name rfl) (.int _))) (by rw [f2, l2]; rfl)) (fun _ => Ex.weakBrk (Ex.stop Ex1.brk) (.upd ?_ (.upd ?_ .ini))) fun q => by cases q)))) fun q => by cases q)
      · show some (D.own _) = some (D.own _); rw [nm_succ, l1]; simp
      · show some (D.int _) = some (D.int _); rw [f2]
    · refine Ex.freeze (x := "names") rfl ?_
      refine Ex.stop (Ex1.ret (Ev.conv (Ev.join .str (.cons (.name rfl) .nil) (Cal.join (join_facts c hc)) (fun _ => ⟨_, rfl⟩)) ?_))
      have : c ≠ 0 := by omega
      simp [flagText, this]
theorem flags_cal {fa d : Addr} (K : Known C "pretty_flags" fa 6) (hk : C.k ≤ 50) (H : Table C "COMPILER_FLAG_NAMES" d flagTab) (hrange : C.G "range" = some (.type "range")) (hhex : C.G "hex" = some (.builtin "hex")) (c : Nat) (hc : c < 32) :
    Cal C (.ref fa) [.int c] (.str (flagText c)) :=
  K.cal hk (fun _ _ _ => bind1 fun _ => rfl) rfl (by decide) (by decide +kernel) rfl rfl rfl (flags_ex (C := C.deeper) ⟨H.g, H.tab⟩ hrange hhex c hc)
end
end Mine
namespace Mine

noncomputable def pre : List Nat → List Nat → Bool
  | [], _ => true
  | _ :: _, [] => false
  | a :: p, b :: r => Nat.beq a b && pre p r
noncomputable def occF (p : List Nat) : List Nat → Nat → Nat → Nat → List Nat
  | [], i, free, lim => if Nat.ble 1 lim && Nat.ble free i && pre p [] then [i] else []
  | a :: r, i, free, lim => if Nat.ble 1 lim && Nat.ble free i && pre p (a :: r) then i :: occF p r (i + 1) (i + p.length) (lim - 1) else occF p r (i + 1) free lim

theorem pre_iff : ∀ (p r : List Nat), pre p r = true ↔ r.take p.length = p
  | [], r => by simp [pre]
  | a :: p, [] => by simp [pre]
  | a :: p, b :: r => by
    simp only [pre, Bool.and_eq_true, List.length_cons, List.take_succ_cons, List.cons.injEq, pre_iff p r]
    constructor
    · rintro ⟨h, h'⟩; exact ⟨(Nat.eq_of_beq_eq_true h).symm, h'⟩
    · rintro ⟨h, h'⟩; exact ⟨by rw [h]; exact Nat.beq_refl a, h'⟩

theorem subAt_iff (s sub : PySem.Str) (i : Nat) (hi : i ≤ s.length) : (i + sub.length ≤ s.length ∧ Builtin.Str.subAt s sub i = true) ↔ pre sub.cps.toList (s.cps.toList.drop i) = true := by
  rw [pre_iff]
  have e : Builtin.Str.subAt s sub i = true ↔ (s.cps.toList.drop i).take sub.cps.toList.length = sub.cps.toList := by
    unfold Builtin.Str.subAt
    rw [beq_iff_eq, ← Array.toList_inj]
    have : (s.cps.extract i (i + sub.length)).toList = (s.cps.toList.drop i).take sub.cps.toList.length := by
      rw [Array.toList_extract]
      show List.extract _ _ _ = _
      simp [List.extract, PySem.Str.length]
    rw [this]
  rw [e]
  refine ⟨fun h => h.2, fun h => ⟨?_, h⟩⟩
  have := congrArg List.length h
  simp at this
  show i + sub.cps.size ≤ s.cps.size
  have hi' : i ≤ s.cps.size := hi
  omega

theorem occ_go (s sub : PySem.Str) (limit : Nat) : ∀ (r : List Nat) (i : Nat) (acc : Array Nat) (free : Nat), r = s.cps.toList.drop i → i + r.length = s.length →
    (forIn (List.range' i (r.length + 1)) (acc, free) (StrLaws.occBody s sub s.length limit)).run.fst.toList = acc.toList ++ occF sub.cps.toList r i free (limit - acc.size)
  | [], i, acc, free, hr, hl => by
    have hs := subAt_iff s sub i (by simp at hl; omega)
    rw [← hr] at hs
    show (forIn [i] (acc, free) (StrLaws.occBody s sub s.length limit)).run.fst.toList = _
    rw [List.forIn_cons]
    unfold StrLaws.occBody occF
    by_cases hc : ((acc.size < limit ∧ free ≤ i) ∧ i + sub.length ≤ s.length) ∧ Builtin.Str.subAt s sub i = true
    · have h1 : (Nat.ble 1 (limit - acc.size) && Nat.ble free i && pre sub.cps.toList []) = true := by
        rw [Bool.and_eq_true, Bool.and_eq_true]; exact ⟨⟨Nat.ble_eq.mpr (by omega), Nat.ble_eq.mpr hc.1.1.2⟩, hs.mp ⟨hc.1.2, hc.2⟩⟩
      rw [if_pos hc, if_pos h1]; simp
    · have h1 : ¬ (Nat.ble 1 (limit - acc.size) && Nat.ble free i && pre sub.cps.toList []) = true := by
        rw [Bool.and_eq_true, Bool.and_eq_true]; rintro ⟨⟨a, b⟩, c⟩
        have a := Nat.ble_eq.mp a
        have c := hs.mpr c
        exact hc ⟨⟨⟨by omega, Nat.ble_eq.mp b⟩, c.1⟩, c.2⟩
      rw [if_neg hc, if_neg h1]; simp
  | b :: r, i, acc, free, hr, hl => by
    have hs := subAt_iff s sub i (by simp at hl; omega)
    rw [← hr] at hs
    have hr' : r = s.cps.toList.drop (i + 1) := by rw [← List.drop_drop, ← hr]; rfl
    have hl' : i + 1 + r.length = s.length := by simp at hl; omega
    rw [List.length_cons, List.range'_succ, List.forIn_cons]
    unfold occF
    have ih := fun acc free => occ_go s sub limit r (i + 1) acc free hr' hl'
    by_cases hc : ((acc.size < limit ∧ free ≤ i) ∧ i + sub.length ≤ s.length) ∧ Builtin.Str.subAt s sub i = true
    · have h1 : (Nat.ble 1 (limit - acc.size) && Nat.ble free i && pre sub.cps.toList (b :: r)) = true := by
        rw [Bool.and_eq_true, Bool.and_eq_true]; exact ⟨⟨Nat.ble_eq.mpr (by omega), Nat.ble_eq.mpr hc.1.1.2⟩, hs.mp ⟨hc.1.2, hc.2⟩⟩
      have e : StrLaws.occBody s sub s.length limit i (acc, free) = pure (ForInStep.yield (acc.push i, i + sub.length)) := if_pos hc
      rw [if_pos h1, e]
      refine (ih (acc.push i) (i + sub.length)).trans ?_
      have e2 : i + sub.length = i + sub.cps.toList.length := by rw [Array.length_toList]; rfl
      rw [e2, Array.size_push, Array.toList_push, List.append_assoc, Nat.sub_add_eq]; rfl
    · have h1 : ¬ (Nat.ble 1 (limit - acc.size) && Nat.ble free i && pre sub.cps.toList (b :: r)) = true := by
        rw [Bool.and_eq_true, Bool.and_eq_true]; rintro ⟨⟨a, b⟩, c⟩
        have a := Nat.ble_eq.mp a
        have c := hs.mpr c
        exact hc ⟨⟨⟨by omega, Nat.ble_eq.mp b⟩, c.1⟩, c.2⟩
      have e : StrLaws.occBody s sub s.length limit i (acc, free) = pure (ForInStep.yield (acc, free)) := if_neg hc
      rw [if_neg h1, e]
      exact ih acc free

theorem occ_fast (s sub : PySem.Str) (lo limit : Nat) (h : lo ≤ s.length) : Builtin.Str.occurrences s sub lo s.length limit = occF sub.cps.toList (s.cps.toList.drop lo) lo lo limit := by
  rw [StrLaws.occ_eq]
  have hl : lo + (s.cps.toList.drop lo).length = s.length := by
    rw [List.length_drop, Array.length_toList]
    show lo + (s.length - lo) = _; omega
  have e : s.length + 1 - lo = (s.cps.toList.drop lo).length + 1 := by omega
  rw [e, occ_go s sub limit _ lo #[] lo rfl hl]; simp

theorem occF_lt (p : List Nat) : ∀ (r : List Nat) (i free lim : Nat) (k : Nat), k ∈ occF p r i free lim → k + p.length ≤ i + r.length ∧ i ≤ k
  | [], i, free, lim, k, h => by
    unfold occF at h
    split at h
    · next hc =>
      rw [Bool.and_eq_true] at hc
      have := (pre_iff p []).mp hc.2
      simp at h this; subst h; subst this; simp
    · cases h
  | b :: r, i, free, lim, k, h => by
    unfold occF at h
    split at h
    · next hc =>
      rw [Bool.and_eq_true] at hc
      have := congrArg List.length ((pre_iff p (b :: r)).mp hc.2)
      rw [List.length_take] at this
      rcases List.mem_cons.mp h with rfl | h
      · omega
      · have := occF_lt p r _ _ _ k h
        rw [List.length_cons]; omega
    · have := occF_lt p r _ _ _ k h
      rw [List.length_cons]; omega

/-- all words in turn, on plain lists -/
noncomputable def emL (g : List Nat) : List (List Nat) → Nat → Bool
  | [], _ => true
  | w :: ws, p => match occF w (g.drop p) p p 1 with | [] => false | k :: _ => emL g ws (k + w.length)

noncomputable def posAt (got : PySem.Str) (ws : List PySem.Str) (p : Int) (i : Nat) : Int := (ws.take i).foldl (fun p w => find4 got w p (got.length : Int) + (w.length : Int)) p
noncomputable def emOk (got : PySem.Str) (ws : List PySem.Str) (p : Int) (i : Nat) : Bool := decide (0 ≤ find4 got (ws.getD i PySem.Str.empty) (posAt got ws p i) (got.length : Int))
noncomputable def emB (got : PySem.Str) (ws : List PySem.Str) (p : Int) : Bool := (List.range ws.length).all (emOk got ws p)

theorem find4_fast (x y : PySem.Str) (p : Nat) (h : p ≤ x.length) : find4 x y (p : Int) (x.length : Int) = match occF y.cps.toList (x.cps.toList.drop p) p p 1 with | k :: _ => (k : Int) | [] => -1 := by
  have e1 : fromIndex x.length ((p : Int)) = p := by
    unfold fromIndex; have : ¬ ((p : Int) < 0) := by omega
    simp [this]
  have e2 : fromIndex x.length ((x.length : Int)) = x.length := by
    unfold fromIndex; have : ¬ ((x.length : Int) < 0) := by omega
    simp [this]
  unfold find4
  rw [e1, e2, Nat.min_self, occ_fast x y p 1 h]
  all_goals (cases occF y.cps.toList (List.drop p x.cps.toList) p p 1 <;> rfl)

theorem emB_cons (got w : PySem.Str) (ws : List PySem.Str) (p : Int) : emB got (w :: ws) p = (decide (0 ≤ find4 got w p got.length) && emB got ws (find4 got w p got.length + w.length)) := by
  unfold emB
  rw [List.length_cons, List.range_succ_eq_map, List.all_cons, List.all_map]
  rfl

theorem emB_fast (got : PySem.Str) : ∀ (ws : List PySem.Str) (p : Nat), p ≤ got.length → emB got ws p = emL got.cps.toList (ws.map (·.cps.toList)) p
  | [], _, _ => rfl
  | w :: ws, p, h => by
    rw [emB_cons, find4_fast got w p h]
    show _ = (match occF w.cps.toList (got.cps.toList.drop p) p p 1 with | [] => false | k :: _ => emL got.cps.toList (ws.map fun (x : PySem.Str) => x.cps.toList) (k + w.cps.toList.length))
    cases hm : occF w.cps.toList (got.cps.toList.drop p) p p 1 with
    | nil => rfl
    | cons k l =>
      have := occF_lt w.cps.toList _ _ _ _ k (by rw [hm]; exact List.mem_cons_self ..)
      have hl : (got.cps.toList.drop p).length = got.length - p := by rw [List.length_drop, Array.length_toList]; rfl
      have hw : w.cps.toList.length = w.length := Array.length_toList
      rw [hl] at this
      have ih := emB_fast got ws (k + w.length) (by rw [← hw]; omega)
      have h0 : (0 : Int) ≤ (k : Int) := by omega
      simp only [h0, decide_true, Bool.true_and]
      rw [hw, ← ih, Int.natCast_add]
end Mine
namespace Mine
noncomputable def dots : PySem.Str := "..."
noncomputable def wantOf (a : Nat) : PySem.Str := dots ++ Txt.join dots (nm a 5) ++ dots
noncomputable def wL : Nat → List Nat
  | 0 => [79, 80, 84, 73, 77, 73, 90, 69, 68]
  | 1 => [78, 69, 87, 76, 79, 67, 65, 76, 83]
  | 2 => [86, 65, 82, 65, 82, 71, 83]
  | 3 => [86, 65, 82, 75, 69, 89, 87, 79, 82, 68, 83]
  | _ => [78, 69, 83, 84, 69, 68]
theorem wL_eq : ∀ i < 5, (flagNm i).cps.toList = wL i := by decide +kernel
noncomputable def wsL (a : Nat) : List (List Nat) := ((List.range 5).filter fun j => a.testBit j).map wL
noncomputable def gl (sep : List Nat) : List (List Nat) → List Nat
  | [] => []
  | [w] => w
  | w :: r => w ++ (sep ++ gl sep r)
noncomputable def tL (c : Nat) : List Nat := if c = 0 then [48, 120, 48] else gl [44, 32] (wsL c)
theorem tL_eq : ∀ c < 32, (flagText c).cps.toList = tL c := by decide +kernel
theorem em_tab : ∀ a < 32, ∀ c < 32, 0 < a → emL (tL c) ([] :: wsL a ++ [[]]) 0 = (Nat.land a c == a) := by decide +kernel
/-- the width of a text's letters, on plain lists -/
noncomputable def kF (l : List Nat) : Nat := if l.all (fun c => decide (c < 256)) = true then 1 else if l.all (fun c => decide (c < 65536)) = true then 2 else 4
theorem kF_eq (s : PySem.Str) : Builtin.Str.strKind s = kF s.cps.toList := by
  unfold Builtin.Str.strKind kF
  rw [Array.all_toList, Array.all_toList]
noncomputable def cut (x : List Nat) (n : Nat) (o : List Nat) : List (List Nat) := ((0 :: o.map (· + n)).zip (o ++ [x.length])).map fun p => (x.drop p.1).take (p.2 - p.1)
noncomputable def splitF (x y : List Nat) : List (List Nat) :=
  if (Nat.blt x.length y.length || Nat.blt (kF x) (kF y)) = true then [x] else
  match occF y x 0 0 (x.length + 1) with
  | [] => [x]
  | k :: r => cut x y.length (k :: r)
noncomputable def ofL (l : List Nat) : PySem.Str := ⟨l.toArray⟩
theorem ofL_eq (s : PySem.Str) : ofL s.cps.toList = s := by cases s; rfl
theorem split_fast (x y : PySem.Str) : Txt.split x y = (splitF x.cps.toList y.cps.toList).map ofL := by
  have hx : x.cps.toList.length = x.length := Array.length_toList
  have hy : y.cps.toList.length = y.length := Array.length_toList
  have one : [x] = [x.cps.toList].map ofL := by rw [List.map_singleton, ofL_eq]
  have c : (decide (x.length < y.length) || decide (Builtin.Str.strKind x < Builtin.Str.strKind y)) = (Nat.blt x.cps.toList.length y.cps.toList.length || Nat.blt (kF x.cps.toList) (kF y.cps.toList)) := by
    have q : ∀ a b : Nat, decide (a < b) = Nat.blt a b := fun a b => by
      rw [Bool.eq_iff_iff, decide_eq_true_iff]; exact ⟨fun h => Nat.ble_eq.mpr h, fun h => Nat.ble_eq.mp h⟩
    rw [kF_eq, kF_eq, hx, hy, q, q]
  unfold Txt.split splitF
  rw [c, occ_fast x y 0 _ (Nat.zero_le _), List.drop_zero, hx]
  split
  · exact one
  · generalize occF y.cps.toList x.cps.toList 0 0 (x.length + 1) = o
    cases o with
    | nil => exact one
    | cons k r =>
      show Builtin.Str.partsBetween x (k :: r) y.length = (cut x.cps.toList y.cps.toList.length (k :: r)).map ofL
      unfold Builtin.Str.partsBetween cut
      rw [List.map_map, hx, hy]
      refine List.map_congr_left fun p _ => ?_
      show (⟨x.cps.extract p.1 p.2⟩ : PySem.Str) = ⟨((x.cps.toList.drop p.1).take (p.2 - p.1)).toArray⟩
      congr 1
      rw [← Array.toList_inj, Array.toList_extract]
theorem nm_ofL (a : Nat) : nm a 5 = (wsL a).map ofL := by
  unfold nm wsL
  rw [List.map_map]
  refine List.map_congr_left fun i hi => ?_
  have : i < 5 := List.mem_range.mp (List.mem_filter.mp hi).1
  show _ = ofL (wL i)
  rw [← wL_eq i this, ofL_eq]
noncomputable def wtL (a : Nat) : List Nat := [46, 46, 46] ++ gl [46, 46, 46] (wsL a) ++ [46, 46, 46]
theorem dots_eq : dots.cps.toList = [46, 46, 46] := by decide +kernel
theorem join_gl (sep : PySem.Str) : ∀ l : List PySem.Str, (Str.join sep l).cps.toList = gl sep.cps.toList (l.map fun (x : PySem.Str) => x.cps.toList)
  | [] => rfl
  | [_] => rfl
  | x :: y :: r => by
    show (x.cps ++ sep.cps ++ (Str.join sep (y :: r)).cps).toList = x.cps.toList ++ (sep.cps.toList ++ gl sep.cps.toList ((y :: r).map fun (x : PySem.Str) => x.cps.toList))
    rw [Array.toList_append, Array.toList_append, join_gl sep (y :: r), List.append_assoc]
theorem wtL_eq (a : Nat) : (wantOf a).cps.toList = wtL a := by
  show (dots.cps ++ (Txt.join dots (nm a 5)).cps ++ dots.cps).toList = _
  have e : (Txt.join dots (nm a 5)).cps.toList = gl [46, 46, 46] (wsL a) := by
    show (Builtin.Str.glued dots (nm a 5)).cps.toList = _
    rw [StrLaws.glued_eq_join, join_gl, dots_eq, nm_ofL, List.map_map]
    congr 1
    refine (List.map_congr_left fun l _ => ?_).trans (List.map_id _)
    exact List.toList_toArray
  rw [Array.toList_append, Array.toList_append, e, dots_eq]; rfl
theorem comma_eq : (", " : PySem.Str).cps.toList = [44, 32] := by decide +kernel
theorem split_aL : ∀ a < 32, 0 < a → splitF (tL a) [44, 32] = wsL a := by decide +kernel
theorem split_wL : ∀ a < 32, 0 < a → splitF (wtL a) [46, 46, 46] = [] :: wsL a ++ [[]] := by decide +kernel
theorem has_wL : ∀ a < 32, (occF [46, 46, 46] (wtL a) 0 0 1).isEmpty = false := by decide +kernel
theorem split_a (a : Nat) (h : a < 32) (h0 : 0 < a) : Txt.split (flagText a) ", " = nm a 5 := by
  rw [split_fast, tL_eq a h, comma_eq, split_aL a h h0, nm_ofL]
theorem split_w (a : Nat) (h : a < 32) (h0 : 0 < a) : Txt.split (wantOf a) dots = PySem.Str.empty :: nm a 5 ++ [PySem.Str.empty] := by
  rw [split_fast, wtL_eq a, dots_eq, split_wL a h h0, nm_ofL, List.map_append]; rfl
theorem has_w (a : Nat) (h : a < 32) : Txt.contains (wantOf a) dots = true := by
  unfold Txt.contains
  rw [occ_fast _ _ 0 _ (Nat.zero_le _), List.drop_zero, wtL_eq a, dots_eq, has_wL a h]; rfl
end Mine
namespace Mine
section
variable {C : Cx} {sc : Scope} {σ : St}
theorem Ev.globStr {x y : PySem.Str} {t : Tok} {pos : Pos} (hx : sc.names.lookup x = some .globalImplicit) (hG : C.G x = some (.str y t)) (hd : (x == ("__debug__" : PySem.Str)) = false := by decide) : Ev C sc σ (.Name x pos) (.str y) := by
  intro env A s Z he hA V
  exact load_glob V (by rw [he]; exact hx) hG ⟨.rfl' s, .str _ _⟩ hd

theorem posAt_succ (got : PySem.Str) : ∀ (ws : List PySem.Str) (p : Int) (i : Nat) (w : PySem.Str), ws[i]? = some w → posAt got ws p (i + 1) = find4 got w (posAt got ws p i) got.length + w.length
  | [], p, i, w, h => by simp at h
  | u :: ws, p, 0, w, h => by simp at h; subst h; rfl
  | u :: ws, p, i + 1, w, h => by
    simp at h
    exact posAt_succ got ws (find4 got u p got.length + u.length) i w h

/-- the first that fails -/
theorem first_bad (f : Nat → Bool) : ∀ n, (∀ i < n, f i = true) ∨ ∃ k < n, f k = false ∧ ∀ i < k, f i = true
  | 0 => .inl fun i h => absurd h (Nat.not_lt_zero _)
  | n + 1 => by
    rcases first_bad f n with h | ⟨k, hk, h⟩
    · cases hf : f n
      · exact .inr ⟨n, Nat.lt_succ_self n, hf, h⟩
      · refine .inl fun i hi => ?_
        rcases Nat.lt_succ_iff_lt_or_eq.mp hi with q | rfl
        · exact h i q
        · exact hf
    · exact .inr ⟨k, Nat.lt_succ_of_lt hk, h⟩

noncomputable def emSt (got : PySem.Str) (ws : List PySem.Str) (i : Nat) : St := upd (upd (upd (upd ini "got" (.str got)) "ws" (.lst (ws.map .str))) "endpos" (.int got.length)) "startpos" (.int (posAt got ws 0 i))

theorem em_ex {t : Tok} (hell : C.G "ELLIPSIS_MARKER" = some (.str dots t)) (hlen : C.G "len" = some (.builtin "len")) (want got : PySem.Str) (ws mid : List PySem.Str) (hin : Txt.contains want dots = true) (hsp : Txt.split want dots = ws) (hws : ws = PySem.Str.empty :: mid ++ [PySem.Str.empty])
    (hsz : want.length ≤ sizeLine) (hn : (Builtin.Str.partsBetween want (Builtin.Str.occurrences want dots 0 want.length (want.length + 1)) dots.length).length ≤ sizeLine) (hwl : ws.length ≤ 2 ^ 20) (hg : got.length ≤ 2 ^ 20) (hww : ∀ w ∈ ws, w.length ≤ 2 ^ 20) :
    Ex C (fnScope 9) (params ["want", "got"] [.str want, .str got]) (fnBody 9) (.ret (.bool (emB got ws 0))) := by
  conv => arg 4; whnf
  have h0 : (ws.map D.str)[0]? = some (.str PySem.Str.empty) := by rw [hws]; rfl
  have hlast : (ws.map D.str)[((-1 : Int) + ((ws.map D.str).length : Int)).toNat]? = some (.str PySem.Str.empty) := by
    have e : ((-1 : Int) + ((ws.map D.str).length : Int)).toNat = mid.length + 1 := by rw [hws]; simp; omega
    rw [e, hws]; simp
  have hl2 : 2 ≤ ws.length := by rw [hws]; simp
  have hemp : (PySem.Str.empty.length != 0) = false := by decide
  refine Ex.cons (Ex1.iff (c := false) (Tst.conv (Tst.cmp (Ev.globStr (by decide +kernel) hell) (.name rfl) .notIn_str) (by rw [hin]; rfl)) (fun q => by cases q) fun _ => Ex.nil) ?_
  refine Ex.cons (Ex1.assign (Ev.split (.name rfl) (.cons (Ev.globStr (by decide +kernel) hell) .nil) (Cal.split (by decide +kernel) hsz hn) (fun _ => ⟨_, rfl⟩)) rfl) ?_
  rw [hsp]
  refine Ex.cons (Ex1.assert (Tst.conv (Tst.cmp (Ev.call (by decide +kernel) hlen (.builtin _) (.cons (.name rfl) .nil) (Cal.len_lst (by rw [List.length_map]; omega))) .int .ge_int) (by rw [List.length_map]; simp; omega))) ?_
  refine Ex.cons (Ex1.swapped (ns := ["startpos", "endpos"]) (Ev.tuple (.cons .int (.cons (Ev.call (by decide +kernel) hlen (.builtin _) (.cons (.name rfl) .nil) (Cal.len_str (by omega))) .nil))) (.tup _) (by decide +kernel) rfl (Nat.le_of_ble_eq_true rfl) (fun _ => rfl) (fun env he => by cases env; simp only at he; subst he; rfl)) ?_
  refine Ex.cons (Ex1.assign (Ev.item (.name rfl) .int (by decide) (by decide) h0) rfl) ?_
  refine Ex.cons (Ex1.iff (c := false) (Tst.conv (Tst.val (.name rfl) (.str _) (fun x q => by cases q; decide)) hemp) (fun q => by cases q) fun _ => Ex.nil) ?_
  refine Ex.cons (Ex1.assign (Ev.itemNeg (.name rfl) (Ev.neg .int) (by decide) (by rw [List.length_map]; omega) (by decide) hlast) rfl) ?_
  refine Ex.cons (Ex1.iff (c := false) (Tst.conv (Tst.val (.name rfl) (.str _) (fun x q => by cases q; decide)) hemp) (fun q => by cases q) fun _ => Ex.nil) ?_
  refine Ex.cons (Ex1.iff (c := false) (Tst.conv (Tst.cmp (.name rfl) (.name rfl) .gt_int) (by simp)) (fun q => by cases q) fun _ => Ex.nil) ?_
  refine Ex.less (σ := emSt got ws 0) (.upd rfl (.upd rfl (.upd rfl (.upd rfl .ini)))) ?_
  have turn : ∀ (i : Nat) (dd : D), emOk got ws 0 i = true → (ws.map D.str)[i]? = some dd → ∃ w : PySem.Str, dd = .str w ∧ ws[i]? = some w ∧ 0 ≤ find4 got w (posAt got ws 0 i) got.length := fun i dd hi hd => by
    rw [List.getElem?_map] at hd
    cases hw : ws[i]? with
    | none => rw [hw] at hd; cases hd
    | some w =>
      rw [hw] at hd
      refine ⟨w, (by simpa using hd.symm), rfl, ?_⟩
      unfold emOk at hi
      rw [List.getD_eq_getElem?_getD, hw] at hi
      simpa using hi
  have body : ∀ (n : Nat), (∀ i < n, emOk got ws 0 i = true) → ∀ (i : Nat) (dd : D), i < n → (ws.map D.str)[i]? = some dd → emOk got ws 0 i = true := fun n h i dd hi _ => h i hi
  rcases first_bad (emOk got ws 0) ws.length with hall | ⟨k, hk, hbad, hok⟩
  · have hb : emB got ws 0 = true := by
      unfold emB; rw [List.all_eq_true]; intro i hi; exact hall i (List.mem_range.mp hi)
    rw [hb]
    refine Ex.cons (Ex1.forN (emSt got ws) ws.length (.name rfl) (.lst _) (by rw [List.length_map]; omega) rfl (by rw [List.length_map]; omega) (fun i dd hi hd => ?_) (.all (by rw [List.length_map]) Ex.nil)) (Ex.stop (Ex1.ret .bool))
    obtain ⟨w, rfl, hw, hp⟩ := turn i dd (hall i hi) hd
    have hlt : ¬ (find4 got w (posAt got ws 0 i) got.length < 0) := by omega
    refine ⟨_, Asg.name rfl, Ex.weak (Ex.cons (Ex1.assign (Ev.find (.name rfl) (.cons (.name rfl) (.cons (.name rfl) (.cons (.name rfl) .nil))) .find4 (fun _ => ⟨_, rfl⟩)) rfl) (Ex.cons (Ex1.iff (c := false) (Tst.conv (Tst.cmp (.name rfl) .int .lt_int) (by simpa using hlt)) (fun q => by cases q) fun _ => Ex.nil) (Ex.cons (Ex1.aug rfl (Ev.call (by decide +kernel) hlen (.builtin _) (.cons (.name rfl) .nil) (Cal.len_str ?_)) .add_int rfl) Ex.nil))) (.upd ?_ (.upd rfl (.upd rfl (.upd rfl .ini))))⟩
    · exact Nat.le_trans (hww w (List.mem_of_getElem? hw)) (by decide)
    · show some (D.int _) = some (D.int _); rw [posAt_succ got ws 0 i w hw]
  · have hb : emB got ws 0 = false := by
      unfold emB; rw [List.all_eq_false]; exact ⟨k, List.mem_range.mpr hk, by rw [hbad]; decide⟩
    rw [hb]
    have hwk : ∃ w, ws[k]? = some w := ⟨ws[k], by simp [hk]⟩
    obtain ⟨w, hw⟩ := hwk
    have hneg : find4 got w (posAt got ws 0 k) got.length < 0 := by
      unfold emOk at hbad
      rw [List.getD_eq_getElem?_getD, hw] at hbad
      simpa using hbad
    refine Ex.stop (Ex1.forN (emSt got ws) k (.name rfl) (.lst _) (by rw [List.length_map]; omega) rfl (by rw [List.length_map]; omega) (fun i dd hi hd => ?_) (.ret (d := .str w) (by rw [List.getElem?_map, hw]; rfl) (Asg.name rfl) ?_))
    · obtain ⟨w, rfl, hw, hp⟩ := turn i dd (hok i hi) hd
      have hlt : ¬ (find4 got w (posAt got ws 0 i) got.length < 0) := by omega
      refine ⟨_, Asg.name rfl, Ex.weak (Ex.cons (Ex1.assign (Ev.find (.name rfl) (.cons (.name rfl) (.cons (.name rfl) (.cons (.name rfl) .nil))) .find4 (fun _ => ⟨_, rfl⟩)) rfl) (Ex.cons (Ex1.iff (c := false) (Tst.conv (Tst.cmp (.name rfl) .int .lt_int) (by simpa using hlt)) (fun q => by cases q) fun _ => Ex.nil) (Ex.cons (Ex1.aug rfl (Ev.call (by decide +kernel) hlen (.builtin _) (.cons (.name rfl) .nil) (Cal.len_str ?_)) .add_int rfl) Ex.nil))) (.upd ?_ (.upd rfl (.upd rfl (.upd rfl .ini))))⟩
      · exact Nat.le_trans (hww w (List.mem_of_getElem? hw)) (by decide)
      · show some (D.int _) = some (D.int _); rw [posAt_succ got ws 0 i w hw]
    · exact Ex.cons (Ex1.assign (Ev.find (.name rfl) (.cons (.name rfl) (.cons (.name rfl) (.cons (.name rfl) .nil))) .find4 (fun _ => ⟨_, rfl⟩)) rfl) (Ex.stop (Ex1.iff (c := true) (Tst.conv (Tst.cmp (.name rfl) .int .lt_int) (by simpa using hneg)) (fun _ => Ex.stop (Ex1.ret .bool)) fun q => by cases q))

theorem parts_le (x y : PySem.Str) : (Builtin.Str.partsBetween x (Builtin.Str.occurrences x y 0 x.length (x.length + 1)) y.length).length ≤ x.length + 2 := by
  unfold Builtin.Str.partsBetween
  have := StrLaws.occ_length_le x y 0 x.length (x.length + 1)
  simp only [List.length_map, List.length_zip, List.length_cons, List.length_append, List.length_nil]
  omega

theorem want_len : ∀ a < 32, (wantOf a).length ≤ 100 ∧ (∀ w ∈ nm a 5, w.length ≤ 100) ∧ (nm a 5).length ≤ 100 := by decide +kernel
theorem text_len : ∀ a < 32, (flagText a).length ≤ 100 := by decide +kernel

theorem em_cal {fa : Addr} {t : Tok} (K : Known C "_ellipsis_match" fa 9) (hk : C.k ≤ 50) (hell : C.G "ELLIPSIS_MARKER" = some (.str dots t)) (hlen : C.G "len" = some (.builtin "len")) (a c : Nat) (ha : 0 < a) (ha' : a < 32) (hc : c < 32) :
    Cal C (.ref fa) [.str (wantOf a), .str (flagText c)] (.bool (Nat.land a c == a)) := by
  have sl : (2 : Nat) ^ 20 ≤ sizeLine := by decide
  obtain ⟨w1, w2, w3⟩ := want_len a ha'
  have hx := em_ex (C := C.deeper) hell hlen (wantOf a) (flagText c) (PySem.Str.empty :: nm a 5 ++ [PySem.Str.empty]) (nm a 5) (has_w a ha') (split_w a ha' ha) rfl (by omega) (by have := parts_le (wantOf a) dots; omega)
    (by simp; omega) (by have := text_len c hc; omega) (fun w hw => by
      rcases List.mem_cons.mp hw with rfl | hw
      · decide
      · rcases List.mem_append.mp hw with hw | hw
        · have := w2 w hw; omega
        · cases List.mem_singleton.mp hw; decide)
  have e : emB (flagText c) (PySem.Str.empty :: nm a 5 ++ [PySem.Str.empty]) 0 = (Nat.land a c == a) := by
    have h1 := emB_fast (flagText c) (PySem.Str.empty :: nm a 5 ++ [PySem.Str.empty]) 0 (Nat.zero_le _)
    have e2 : ((PySem.Str.empty :: nm a 5 ++ [PySem.Str.empty]).map fun (x : PySem.Str) => x.cps.toList) = [] :: wsL a ++ [[]] := by
      have : (nm a 5).map (fun (x : PySem.Str) => x.cps.toList) = wsL a := by
        unfold nm wsL
        rw [List.map_map]
        refine List.map_congr_left fun i hi => ?_
        exact wL_eq i (List.mem_range.mp (List.mem_filter.mp hi).1)
      rw [List.map_append, List.map_cons, this]; rfl
    rw [e2, tL_eq c hc, em_tab a ha' c hc ha] at h1
    exact h1
  rw [e] at hx
  exact K.cal hk (fun _ _ _ => bind2 fun _ _ => rfl) rfl (by decide) (by decide +kernel) rfl rfl rfl hx
end
end Mine
namespace Mine
open PySem.Float64 (pack V infMag val sgn decode Right)

/-- the float x is finite, not negative, and has the value v in units of 2^-1074 -/
noncomputable def F (x : UInt64) (v : Nat) : Prop := ∃ t, t < infMag ∧ x = pack false t ∧ V t = v

theorem V_inj {t u : Nat} (h : V t = V u) : t = u := by
  rcases Nat.lt_trichotomy t u with q | q | q
  · have := Float64.V_lt q; omega
  · exact q
  · have := Float64.V_lt q; omega
theorem F.same {x y : UInt64} {v : Nat} (a : F x v) (b : F y v) : x = y := by
  obtain ⟨t, _, rfl, e⟩ := a
  obtain ⟨u, _, rfl, e'⟩ := b
  rw [V_inj (e.trans e'.symm)]
theorem F.dec {x : UInt64} {v : Nat} (a : F x v) : ∃ m e, decode x = .fin false m e ∧ val x = (v : Int) := by
  obtain ⟨t, h, rfl, e⟩ := a
  obtain ⟨m, ex, hd, _⟩ := Float64.decode_pack false h
  refine ⟨m, ex, hd, ?_⟩
  rw [Float64.val_pack false h, e]; rfl

/-- near any W there is a float -/
theorem near {W : Nat} (hW : W < 2 ^ 1090) : ∃ t', V t' ≤ W ∧ W < V t' + 2 ^ 1050 := by
  have hd : W = 2 ^ 1050 * (W / 2 ^ 1050) + W % 2 ^ 1050 := (Nat.div_add_mod _ _).symm
  have hm : W % 2 ^ 1050 < 2 ^ 1050 := Nat.mod_lt _ (Nat.two_pow_pos _)
  have hj : W / 2 ^ 1050 < 2 ^ 40 := by
    rw [Nat.div_lt_iff_lt_mul (Nat.two_pow_pos _), ← Nat.pow_add]; exact hW
  generalize W / 2 ^ 1050 = j at *
  generalize W % 2 ^ 1050 = r at *
  rcases Nat.eq_zero_or_pos j with h0 | hp
  · subst h0
    refine ⟨0, ?_, ?_⟩ <;> rw [Float64.V_zero] <;> omega
  · have hl : j.log2 < 40 := (Nat.log2_lt (by omega)).mpr hj
    have h1 : 2 ^ j.log2 ≤ j := Nat.log2_self_le (by omega)
    have h2 : j < 2 ^ (j.log2 + 1) := Nat.lt_log2_self
    generalize j.log2 = l at *
    have e52 : 2 ^ l * 2 ^ (52 - l) = 2 ^ 52 := by rw [← Nat.pow_add]; congr 1; omega
    have e53 : 2 ^ (l + 1) * 2 ^ (52 - l) = 2 ^ 53 := by rw [← Nat.pow_add]; congr 1; omega
    have a1 : 2 ^ 52 ≤ j * 2 ^ (52 - l) := by rw [← e52]; exact Nat.mul_le_mul_right _ h1
    have a2 : j * 2 ^ (52 - l) ≤ 2 ^ 53 := by rw [← e53]; exact Nat.mul_le_mul_right _ (Nat.le_of_lt h2)
    have hv := Float64.V_at (k := 998 + l) a2 (.inl a1)
    have e3 : j * 2 ^ (52 - l) * 2 ^ (998 + l) = 2 ^ 1050 * j := by
      rw [Nat.mul_assoc, ← Nat.pow_add, Nat.mul_comm]; congr 2; omega
    rw [e3] at hv
    exact ⟨_, by rw [hv]; omega, by rw [hv]; omega⟩

theorem top_big : (2 : Nat) * 2 ^ 1090 < (2 ^ 54 - 1) * 2 ^ 2045 := by decide +kernel
theorem round_near {r : UInt64} {W Dn : Nat} (h : Right r false W Dn) (hD : 0 < Dn) (hW : W < Dn * 2 ^ 1090) : ∃ z, F r z ∧ W ≤ Dn * (z + 2 ^ 1050) ∧ Dn * z ≤ W + Dn * 2 ^ 1050 := by
  obtain ⟨t, rfl, hle, hov, hn⟩ := h
  have hlt : t < infMag := by
    rcases Nat.lt_or_eq_of_le hle with q | q
    · exact q
    · have h1 := hov.mp q
      have h2 : Dn * (2 * 2 ^ 1090) < Dn * ((2 ^ 54 - 1) * 2 ^ 2045) := Nat.mul_lt_mul_of_pos_left top_big hD
      generalize (2 ^ 54 - 1) * 2 ^ 2045 = X at *
      rw [Nat.mul_left_comm] at h2
      omega
  refine ⟨V t, ⟨t, hlt, rfl, rfl⟩, ?_⟩
  have hw : W / Dn < 2 ^ 1090 := (Nat.div_lt_iff_lt_mul hD).mpr (by rw [Nat.mul_comm]; exact hW)
  obtain ⟨t', a, b⟩ := near hw
  have := (hn hlt t').1
  have hdm : Dn * (W / Dn) + W % Dn = W := Nat.div_add_mod W Dn
  have hm : W % Dn < Dn := Nat.mod_lt _ hD
  have c1 : Dn * V t' ≤ W := Nat.le_trans (Nat.mul_le_mul_left _ a) (by omega)
  have c2 : W ≤ Dn * V t' + Dn * 2 ^ 1050 := by
    have : Dn * (W / Dn + 1) ≤ Dn * (V t' + 2 ^ 1050) := Nat.mul_le_mul_left _ b
    rw [Nat.mul_add, Nat.mul_add] at this; omega
  unfold Float64.dist at this
  rw [Nat.mul_add]
  generalize Dn * 2 ^ 1050 = X at *
  omega
/-- a value that is a float's own is kept -/
theorem round_exact {r : UInt64} {W Dn v : Nat} (h : Right r false W Dn) (hD : 0 < Dn) (hW : W = Dn * v) {y : UInt64} (hy : F y v) (hb : v < 2 ^ 1090) : F r v := by
  obtain ⟨t, rfl, hle, hov, hn⟩ := h
  obtain ⟨u, hu, rfl, hv⟩ := hy
  have hlt : t < infMag := by
    rcases Nat.lt_or_eq_of_le hle with q | q
    · exact q
    · have h1 := hov.mp q
      have h2 : Dn * (2 * 2 ^ 1090) < Dn * ((2 ^ 54 - 1) * 2 ^ 2045) := Nat.mul_lt_mul_of_pos_left top_big hD
      have h3 : Dn * v ≤ Dn * 2 ^ 1090 := Nat.mul_le_mul_left _ (Nat.le_of_lt hb)
      rw [hW] at h1
      generalize (2 ^ 54 - 1) * 2 ^ 2045 = X at *
      rw [Nat.mul_left_comm] at h2
      omega
  have := (hn hlt u).1
  unfold Float64.dist at this
  rw [hv, hW] at this
  have e : Dn * V t = Dn * v := by omega
  exact ⟨t, hlt, rfl, Nat.eq_of_mul_eq_mul_left hD e⟩

theorem F_zero : F (Float64.zero false) 0 := ⟨0, by decide, rfl, Float64.V_zero⟩

section
variable {x y : UInt64} {v w : Nat}
theorem F.addR (a : F x v) (b : F y w) : (v + w = 0 → Float64.add x y = Float64.zero false) ∧ (v + w ≠ 0 → Right (Float64.add x y) false (v + w) 1) := by
  obtain ⟨m, e, hx, vx⟩ := a.dec
  obtain ⟨k, f, hy, vy⟩ := b.dec
  have h := Float64.add_right hx hy
  rw [vx, vy] at h
  refine ⟨fun q => h.1 (by omega), fun q => ?_⟩
  have r := h.2 (by omega)
  have e1 : decide ((v : Int) + (w : Int) < 0) = false := by simp; omega
  have e2 : ((v : Int) + (w : Int)).natAbs = v + w := by omega
  rw [e1, e2] at r; exact r
theorem F.add_exact (a : F x v) (b : F y w) {z : UInt64} (c : F z (v + w)) (hb : v + w < 2 ^ 1090) : Float64.add x y = z := by
  obtain ⟨h1, h2⟩ := a.addR b
  by_cases q : v + w = 0
  · rw [h1 q]; rw [q] at c; exact F_zero.same c
  · exact (round_exact (h2 q) (by decide) (by omega) c hb).same c
theorem F.add_near (a : F x v) (b : F y w) (hb : v + w < 2 ^ 1090) : ∃ z, F (Float64.add x y) z ∧ v + w ≤ z + 2 ^ 1050 ∧ z ≤ v + w + 2 ^ 1050 := by
  obtain ⟨h1, h2⟩ := a.addR b
  by_cases q : v + w = 0
  · exact ⟨0, by rw [h1 q]; exact F_zero, by omega, by omega⟩
  · obtain ⟨z, hz, p, r⟩ := round_near (h2 q) (by decide) (by omega)
    exact ⟨z, hz, by omega, by omega⟩
theorem F.mul_near (a : F x v) (b : F y w) (hb : v * w < 2 ^ 1074 * 2 ^ 1090) : ∃ z, F (Float64.mul x y) z ∧ v * w ≤ 2 ^ 1074 * (z + 2 ^ 1050) ∧ 2 ^ 1074 * z ≤ v * w + 2 ^ 1074 * 2 ^ 1050 := by
  obtain ⟨m, e, hx, vx⟩ := a.dec
  obtain ⟨k, f, hy, vy⟩ := b.dec
  have h := Float64.mul_right hx hy
  rw [vx, vy] at h
  exact round_near h (Nat.two_pow_pos _) hb
theorem F.sub_exact (a : F x v) (b : F y w) {z : UInt64} (h : w ≤ v) (c : F z (v - w)) (hb : v < 2 ^ 1090) : Float64.sub x y = z := by
  obtain ⟨m, e, hx, vx⟩ := a.dec
  obtain ⟨k, f, hy, vy⟩ := b.dec
  have r := Float64.sub_right hx hy
  rw [vx, vy] at r
  by_cases q : v = w
  · rw [r.1 (by omega)]
    have : v - w = 0 := by omega
    rw [this] at c; exact F_zero.same c
  · have r := r.2 (by omega)
    have e1 : decide ((v : Int) - (w : Int) < 0) = false := by simp; omega
    have e2 : ((v : Int) - (w : Int)).natAbs = v - w := by omega
    rw [e1, e2] at r
    exact (round_exact r (by decide) (by omega) c (by omega)).same c
theorem F.cmp (a : F x v) (b : F y w) : Float64.cmp x y = some (compare v w) := by
  obtain ⟨m, e, hx, vx⟩ := a.dec
  obtain ⟨k, f, hy, vy⟩ := b.dec
  rw [Float64.cmp_right hx hy, vx, vy]
  congr 1
  rcases Nat.lt_trichotomy v w with q | q | q
  · rw [Nat.compare_eq_lt.mpr q, Int.compare_eq_lt.mpr (by omega)]
  · rw [Nat.compare_eq_eq.mpr q, Int.compare_eq_eq.mpr (by omega)]
  · rw [Nat.compare_eq_gt.mpr q, Int.compare_eq_gt.mpr (by omega)]
theorem F.trunc (a : F x v) : ∃ m e, decode x = .fin false m e ∧ Float64.truncOf false m e = ((v / 2 ^ 1074 : Nat) : Int) := by
  obtain ⟨t, h, rfl, hv⟩ := a
  obtain ⟨m, ex, hd, he⟩ := Float64.decode_pack false h
  refine ⟨m, ex, hd, ?_⟩
  have hge := Float64.decode_ge hd
  rw [← hv, ← he]
  unfold Float64.truncOf Float64.floorOf
  simp only [Bool.false_eq_true, if_false]
  split
  · next q =>
    have e1 : (ex + 1074).toNat = ex.toNat + 1074 := by omega
    rw [e1, Nat.pow_add, ← Nat.mul_assoc, Nat.mul_div_cancel _ (Nat.two_pow_pos _)]
    unfold Float64.sgn
    simp
  · next q =>
    have e1 : 2 ^ 1074 = 2 ^ (ex + 1074).toNat * 2 ^ (-ex).toNat := by rw [← Nat.pow_add]; congr 1; omega
    rw [e1, Nat.mul_comm m, Nat.mul_div_mul_left _ _ (Nat.two_pow_pos _)]
    unfold Float64.sgn
    simp only [Bool.false_eq_true, if_false]
    rw [Int.fdiv_eq_ediv_of_nonneg _ (Int.le_of_lt (Int.pow_pos (by decide)))]
    simp
end
end Mine
namespace Mine
open PySem.Float64 (pack V infMag val sgn decode Right)

noncomputable def fx (n : Nat) : UInt64 := Float64.ofFrac false n 256
theorem F_of {t : Nat} {v : Nat} {x : UInt64} (h : (decide (t < infMag) && decide (x = pack false t) && decide (V t = v)) = true) : F x v := by
  simp only [Bool.and_eq_true, decide_eq_true_eq] at h
  exact ⟨t, h.1.1, h.1.2, h.2⟩
theorem fx_tab : ∀ n < 1025, Float64.roundMag n 256 < infMag ∧ V (Float64.roundMag n 256) = n * 2 ^ 1066 := by decide +kernel
theorem fxF {n : Nat} (h : n < 1025) : F (fx n) (n * 2 ^ 1066) := ⟨_, (fx_tab n h).1, by unfold fx Float64.ofFrac; rfl, (fx_tab n h).2⟩
theorem fx_big {n : Nat} (h : n < 1025) : n * 2 ^ 1066 < 2 ^ 1090 := by
  have : n * 2 ^ 1066 ≤ 1024 * 2 ^ 1066 := Nat.mul_le_mul_right _ (by omega)
  have h2 : 1024 * 2 ^ 1066 < 2 ^ 1090 := by decide +kernel
  omega
theorem fx_add {a b : Nat} (h : a + b < 1025) : Float64.add (fx a) (fx b) = fx (a + b) := by
  have e : a * 2 ^ 1066 + b * 2 ^ 1066 = (a + b) * 2 ^ 1066 := (Nat.add_mul _ _ _).symm
  exact (fxF (by omega)).add_exact (fxF (by omega)) (by rw [e]; exact fxF h) (by rw [e]; exact fx_big h)
theorem fx_sub {a b : Nat} (h : a < 1025) (hb : b ≤ a) : Float64.sub (fx a) (fx b) = fx (a - b) := by
  have e : a * 2 ^ 1066 - b * 2 ^ 1066 = (a - b) * 2 ^ 1066 := (Nat.sub_mul _ _ _).symm
  exact (fxF h).sub_exact (fxF (by omega)) (Nat.mul_le_mul_right _ hb) (by rw [e]; exact fxF (by omega)) (fx_big h)
theorem fx_cmp {a b : Nat} (h : a < 1025) (hb : b < 1025) : Float64.cmp (fx a) (fx b) = some (compare a b) := by
  rw [(fxF h).cmp (fxF hb)]
  congr 1
  have hp : 0 < 2 ^ 1066 := Nat.two_pow_pos _
  rcases Nat.lt_trichotomy a b with q | q | q
  · rw [Nat.compare_eq_lt.mpr q, Nat.compare_eq_lt.mpr (Nat.mul_lt_mul_of_pos_right q hp)]
  · rw [Nat.compare_eq_eq.mpr q, Nat.compare_eq_eq.mpr (by rw [q])]
  · rw [Nat.compare_eq_gt.mpr q, Nat.compare_eq_gt.mpr (Nat.mul_lt_mul_of_pos_right q hp)]
theorem fx_zero (n : Nat) (h : n < 1025) : Float64.isZero (fx n) = decide (n = 0) := by
  obtain ⟨t, ht, e, hv⟩ := fxF h
  obtain ⟨m, ex, hd, hm⟩ := Float64.decode_pack false ht
  have hp : 0 < 2 ^ 1066 := Nat.two_pow_pos _
  have hq : 0 < 2 ^ (ex + 1074).toNat := Nat.two_pow_pos _
  rw [hv] at hm
  unfold Float64.isZero
  rw [e, hd]
  generalize (2 : Nat) ^ 1066 = P at *
  generalize (2 : Nat) ^ (ex + 1074).toNat = R at *
  cases m with
  | zero =>
    have : n = 0 := by
      rcases Nat.eq_zero_or_pos n with q | q
      · exact q
      · have := Nat.mul_pos q hp; omega
    rw [this]; rfl
  | succ m =>
    have : n ≠ 0 := by
      rintro rfl
      rw [Nat.zero_mul] at hm
      exact absurd hm (Nat.ne_of_gt (Nat.mul_pos (Nat.succ_pos m) hq))
    simp [this]
theorem fx_four : ∀ n < 121, Float64.div (fx (8 * n)) (Float64.ofInt 4) = fx (2 * n) := by decide +kernel
theorem fx_mid : ∀ n < 241, Float64.cmpInt (Float64.mul (Float64.div (fx (2 * n)) 0x4000000000000000) (Float64.ofInt 256)) (n : Nat) = some Ordering.eq := by decide +kernel
theorem fx_two : (0x4000000000000000 : UInt64) = fx 512 := by decide +kernel

theorem fx_max {a b c : Nat} (ha : a < 1025) (hb : b < 1025) (hc : c < 1025) : hlsMax (fx a) (fx b) (fx c) = fx (max (max a b) c) := by
  unfold hlsMax best3 gtF
  rw [fx_cmp hb ha, fx_cmp hc hb, fx_cmp hc ha]
  have key : ∀ x y : Nat, (some (compare x y) == some Ordering.gt) = decide (y < x) := fun x y => by
    rcases Nat.lt_trichotomy x y with q | q | q
    · rw [Nat.compare_eq_lt.mpr q]; simp; omega
    · rw [Nat.compare_eq_eq.mpr q]; simp; omega
    · rw [Nat.compare_eq_gt.mpr q]; simp; omega
  rw [key, key, key]
  by_cases h1 : a < b <;> by_cases h2 : b < c <;> by_cases h3 : a < c <;> simp [h1, h2, h3] <;> congr 1 <;> omega
theorem fx_min {a b c : Nat} (ha : a < 1025) (hb : b < 1025) (hc : c < 1025) : hlsMin (fx a) (fx b) (fx c) = fx (min (min a b) c) := by
  unfold hlsMin best3 ltF
  rw [fx_cmp hb ha, fx_cmp hc hb, fx_cmp hc ha]
  have key : ∀ x y : Nat, (some (compare x y) == some Ordering.lt) = decide (x < y) := fun x y => by
    rcases Nat.lt_trichotomy x y with q | q | q
    · rw [Nat.compare_eq_lt.mpr q]; simp; omega
    · rw [Nat.compare_eq_eq.mpr q]; simp; omega
    · rw [Nat.compare_eq_gt.mpr q]; simp; omega
  rw [key, key, key]
  by_cases h1 : b < a <;> by_cases h2 : c < b <;> by_cases h3 : c < a <;> simp [h1, h2, h3] <;> congr 1 <;> omega

/-- what hls gives at a colour of r, g, b in 128th parts -/
theorem hls_facts {r g b : Nat} (hr : r ≤ 120) (hg : g ≤ 120) (hb : b ≤ 120) :
    ((Float64.cmp (hlsMin (fx (2 * r)) (fx (2 * g)) (fx (2 * b))) (hlsMax (fx (2 * r)) (fx (2 * g)) (fx (2 * b))) == some Ordering.eq) = false → Float64.isZero (hlsRange (fx (2 * r)) (fx (2 * g)) (fx (2 * b))) = false) ∧
    ((Float64.cmp (hlsMin (fx (2 * r)) (fx (2 * g)) (fx (2 * b))) (hlsMax (fx (2 * r)) (fx (2 * g)) (fx (2 * b))) == some Ordering.eq) = false → Float64.isZero (hlsSum (fx (2 * r)) (fx (2 * g)) (fx (2 * b))) = false) ∧
    Float64.isZero (hlsUp (fx (2 * r)) (fx (2 * g)) (fx (2 * b))) = false ∧
    Float64.cmpInt (Float64.mul (hlsL (fx (2 * r)) (fx (2 * g)) (fx (2 * b))) (Float64.ofInt 256)) ((max (max r g) b + min (min r g) b : Nat) : Int) = some Ordering.eq := by
  unfold hlsUp hlsL hlsRange hlsSum
  rw [fx_max (by omega) (by omega) (by omega), fx_min (by omega) (by omega) (by omega)]
  have e1 : max (max (2 * r) (2 * g)) (2 * b) = 2 * max (max r g) b := by omega
  have e2 : min (min (2 * r) (2 * g)) (2 * b) = 2 * min (min r g) b := by omega
  rw [e1, e2]
  have h1 : max (max r g) b ≤ 120 := by omega
  have h2 : min (min r g) b ≤ max (max r g) b := by omega
  generalize max (max r g) b = M at *
  generalize min (min r g) b = m at *
  have e3 := fx_cmp (a := 2 * m) (b := 2 * M) (by omega) (by omega)
  have e4 := fx_sub (a := 2 * M) (b := 2 * m) (by omega) (by omega)
  have e5 := fx_add (a := 2 * M) (b := 2 * m) (by omega)
  rw [e3, e4, e5, fx_zero _ (by omega), fx_zero _ (by omega)]
  refine ⟨fun h => ?_, fun h => ?_, ?_, ?_⟩
  · by_cases q : m = M
    · subst q; rw [Nat.compare_eq_eq.mpr rfl] at h; simp at h
    · simp; omega
  · by_cases q : m = M
    · subst q; rw [Nat.compare_eq_eq.mpr rfl] at h; simp at h
    · simp; omega
  · rw [fx_two, fx_sub (by omega) (by omega), fx_sub (by omega) (by omega), fx_zero _ (by omega)]; simp; omega
  · have := fx_mid (M + m) (by omega)
    rw [Nat.mul_add] at this; exact this

theorem c1F : F 0x3fd3333333333333 (V 0x3fd3333333333333) := F_of (t := 0x3fd3333333333333) (by decide +kernel)
theorem c2F : F 0x3fe2e147ae147ae1 (V 0x3fe2e147ae147ae1) := F_of (t := 0x3fe2e147ae147ae1) (by decide +kernel)
theorem c3F : F 0x3fbc28f5c28f5c29 (V 0x3fbc28f5c28f5c29) := F_of (t := 0x3fbc28f5c28f5c29) (by decide +kernel)
theorem halfF : F 0x3fe0000000000000 (2 ^ 23 * 2 ^ 1050) := F_of (t := 0x3fe0000000000000) (by decide +kernel)
theorem bigF : F (Float64.ofInt 12800) (12800 * 2 ^ 1074) := F_of (t := Float64.roundMag 12800 1) (by decide +kernel)
theorem c1B : 100 * V 0x3fd3333333333333 ≤ 30 * 2 ^ 24 * 2 ^ 1050 + 2 ^ 1050 ∧ 30 * 2 ^ 24 * 2 ^ 1050 ≤ 100 * V 0x3fd3333333333333 + 2 ^ 1050 := by decide +kernel
theorem c2B : 100 * V 0x3fe2e147ae147ae1 ≤ 59 * 2 ^ 24 * 2 ^ 1050 + 2 ^ 1050 ∧ 59 * 2 ^ 24 * 2 ^ 1050 ≤ 100 * V 0x3fe2e147ae147ae1 + 2 ^ 1050 := by decide +kernel
theorem c3B : 100 * V 0x3fbc28f5c28f5c29 ≤ 11 * 2 ^ 24 * 2 ^ 1050 + 2 ^ 1050 ∧ 11 * 2 ^ 24 * 2 ^ 1050 ≤ 100 * V 0x3fbc28f5c28f5c29 + 2 ^ 1050 := by decide +kernel
theorem pw1 : (2 : Nat) ^ 1090 = 2 ^ 40 * 2 ^ 1050 := by decide +kernel
theorem pw2 : (2 : Nat) ^ 1074 = 2 ^ 7 * 2 ^ 1067 := by decide +kernel
theorem pw3 : (2 : Nat) ^ 1074 = 2 ^ 24 * 2 ^ 1050 := by decide +kernel

/-- one product: a constant near k/100 times R/128 -/
theorem one_prod {c : UInt64} {w k R : Nat} (hc : F c w) (h1 : 100 * w ≤ k * 2 ^ 24 * 2 ^ 1050 + 2 ^ 1050) (h2 : k * 2 ^ 24 * 2 ^ 1050 ≤ 100 * w + 2 ^ 1050) (hk : k ≤ 100) (hR : R ≤ 120) :
    ∃ z, F (Float64.mul c (fx (2 * R))) z ∧ 12800 * z ≤ k * 2 ^ 24 * (R * 2 ^ 1050) + 13000 * 2 ^ 1050 ∧ k * 2 ^ 24 * (R * 2 ^ 1050) ≤ 12800 * z + 13000 * 2 ^ 1050 := by
  have ef : F (fx (2 * R)) (R * 2 ^ 1067) := by
    have := fxF (n := 2 * R) (by omega)
    have e : 2 * R * 2 ^ 1066 = R * 2 ^ 1067 := by rw [Nat.mul_comm 2 R, Nat.mul_assoc]; congr 1
    rwa [e] at this
  -- R·w against R·U
  have a1 : R * (100 * w) ≤ R * (k * 2 ^ 24 * 2 ^ 1050 + 2 ^ 1050) := Nat.mul_le_mul_left _ h1
  have a2 : R * (k * 2 ^ 24 * 2 ^ 1050) ≤ R * (100 * w + 2 ^ 1050) := Nat.mul_le_mul_left _ h2
  have a3 : R * 2 ^ 1050 ≤ 120 * 2 ^ 1050 := Nat.mul_le_mul_right _ hR
  have a4 : k * (R * 2 ^ 1050) ≤ 100 * (120 * 2 ^ 1050) := Nat.mul_le_mul hk a3
  have e1 : R * (100 * w) = 100 * (w * R) := by rw [Nat.mul_left_comm, Nat.mul_comm R w]
  have e2 : R * (k * 2 ^ 24 * 2 ^ 1050) = k * 2 ^ 24 * (R * 2 ^ 1050) := by rw [Nat.mul_left_comm]
  have e3 : k * 2 ^ 24 * (R * 2 ^ 1050) = 2 ^ 24 * (k * (R * 2 ^ 1050)) := by rw [Nat.mul_comm k, Nat.mul_assoc]
  rw [Nat.mul_add, e1, e2, e3] at a1
  rw [Nat.mul_add, e1, e2, e3] at a2
  rw [e3]
  have ew : w * (R * 2 ^ 1067) = w * R * 2 ^ 1067 := (Nat.mul_assoc _ _ _).symm
  have hlt : w * (R * 2 ^ 1067) < 2 ^ 1074 * 2 ^ 1090 := by
    have er : 2 ^ 7 * 2 ^ 1067 * 2 ^ 1090 = 2 ^ 7 * 2 ^ 1090 * 2 ^ 1067 := Nat.mul_right_comm _ _ _
    rw [ew, pw2, er]
    refine Nat.mul_lt_mul_of_pos_right ?_ (Nat.two_pow_pos _)
    rw [pw1]
    have hU : 0 < 2 ^ 1050 := Nat.two_pow_pos _
    generalize 2 ^ 1050 = U at *
    generalize w * R = p at *
    generalize k * (R * U) = kr at *
    generalize R * U = ru at *
    omega
  obtain ⟨z, hz, b1, b2⟩ := hc.mul_near ef hlt
  refine ⟨z, hz, ?_⟩
  rw [ew, pw2] at b1 b2
  have c1 : w * R ≤ 2 ^ 7 * (z + 2 ^ 1050) := by
    refine Nat.le_of_mul_le_mul_right ?_ (Nat.two_pow_pos 1067)
    have er : 2 ^ 7 * (z + 2 ^ 1050) * 2 ^ 1067 = 2 ^ 7 * 2 ^ 1067 * (z + 2 ^ 1050) := Nat.mul_right_comm _ _ _
    rw [er]; exact b1
  have c2 : 2 ^ 7 * z ≤ w * R + 2 ^ 7 * 2 ^ 1050 := by
    refine Nat.le_of_mul_le_mul_right ?_ (Nat.two_pow_pos 1067)
    rw [Nat.add_mul, Nat.mul_right_comm, Nat.mul_right_comm (2 ^ 7) (2 ^ 1050)]; exact b2
  generalize 2 ^ 1050 = U at *
  generalize w * R = p at *
  generalize k * (R * U) = kr at *
  generalize R * U = ru at *
  omega

theorem yiq_int {r g b : Nat} (hr : r ≤ 120) (hg : g ≤ 120) (hb : b ≤ 120) :
    ∃ m e, decode (Float64.add (Float64.mul (yiqY (fx (2 * r)) (fx (2 * g)) (fx (2 * b))) (Float64.ofInt 12800)) 0x3fe0000000000000) = .fin false m e ∧ Float64.truncOf false m e = ((30 * r + 59 * g + 11 * b : Nat) : Int) := by
  obtain ⟨z1, f1, l1, u1⟩ := one_prod (R := r) c1F c1B.1 c1B.2 (by decide) hr
  obtain ⟨z2, f2, l2, u2⟩ := one_prod (R := g) c2F c2B.1 c2B.2 (by decide) hg
  obtain ⟨z3, f3, l3, u3⟩ := one_prod (R := b) c3F c3B.1 c3B.2 (by decide) hb
  have a1 : r * 2 ^ 1050 ≤ 120 * 2 ^ 1050 := Nat.mul_le_mul_right _ hr
  have a2 : g * 2 ^ 1050 ≤ 120 * 2 ^ 1050 := Nat.mul_le_mul_right _ hg
  have a3 : b * 2 ^ 1050 ≤ 120 * 2 ^ 1050 := Nat.mul_le_mul_right _ hb
  have hU : 0 < 2 ^ 1050 := Nat.two_pow_pos _
  have k1 : z1 + z2 < 2 ^ 1090 := by rw [pw1]; generalize 2 ^ 1050 = U at *; generalize r * U = x at *; generalize g * U = y at *; generalize b * U = w at *; omega
  obtain ⟨z4, f4, l4, u4⟩ := f1.add_near f2 k1
  have k2 : z4 + z3 < 2 ^ 1090 := by rw [pw1]; generalize 2 ^ 1050 = U at *; generalize r * U = x at *; generalize g * U = y at *; generalize b * U = w at *; omega
  obtain ⟨z5, f5, l5, u5⟩ := f4.add_near f3 k2
  have hbig : z5 < 4 * 2 ^ 24 * 2 ^ 1050 := by generalize 2 ^ 1050 = U at *; generalize r * U = x at *; generalize g * U = y at *; generalize b * U = w at *; omega
  have k3 : z5 * (12800 * 2 ^ 1074) < 2 ^ 1074 * 2 ^ 1090 := by
    rw [Nat.mul_comm 12800, Nat.mul_left_comm]
    refine Nat.mul_lt_mul_of_pos_left ?_ (Nat.two_pow_pos _)
    rw [pw1]; generalize 2 ^ 1050 = U at *; omega
  obtain ⟨z6, f6, l6, u6⟩ := f5.mul_near bigF k3
  rw [Nat.mul_comm 12800, Nat.mul_left_comm] at l6 u6
  have l6' : z5 * 12800 ≤ z6 + 2 ^ 1050 := Nat.le_of_mul_le_mul_left l6 (Nat.two_pow_pos 1074)
  have u6' : z6 ≤ z5 * 12800 + 2 ^ 1050 := by rw [← Nat.mul_add] at u6; exact Nat.le_of_mul_le_mul_left u6 (Nat.two_pow_pos 1074)
  clear l6 u6 k3
  have k4 : z6 + 2 ^ 23 * 2 ^ 1050 < 2 ^ 1090 := by rw [pw1]; generalize 2 ^ 1050 = U at *; omega
  obtain ⟨z7, f7, l7, u7⟩ := f6.add_near halfF k4
  obtain ⟨m, e, hd, ht⟩ := f7.trunc
  refine ⟨m, e, hd, ?_⟩
  rw [ht]
  congr 1
  rw [pw3]
  have en : (30 * r + 59 * g + 11 * b) * (2 ^ 24 * 2 ^ 1050) = 2 ^ 24 * (30 * (r * 2 ^ 1050) + 59 * (g * 2 ^ 1050) + 11 * (b * 2 ^ 1050)) := by
    rw [Nat.mul_left_comm, Nat.add_mul, Nat.add_mul, Nat.mul_assoc, Nat.mul_assoc, Nat.mul_assoc]
  have hp : 0 < 2 ^ 24 * 2 ^ 1050 := Nat.mul_pos (by decide) hU
  refine Nat.div_eq_of_lt_le ?_ ?_
  · rw [en]
    generalize 2 ^ 1050 = U at *; generalize r * U = x at *; generalize g * U = y at *; generalize b * U = w at *; omega
  · rw [Nat.succ_mul, en]
    generalize 2 ^ 1050 = U at *; generalize r * U = x at *; generalize g * U = y at *; generalize b * U = w at *; omega
end Mine
namespace Mine
open PySem.SeqAt (EqAt RcAt RcNeAt)

/-- any two values of this kind are equal -/
noncomputable def SelfEq (k : Nat) (d : D) : Prop := ∀ (A : Around) (s : Shared) (Z : Addr → Prop) (v v' : Value), A.units + k < cLine → NoneBooked s.heap → Rep s.heap Z v d → Rep s.heap Z v' d → EqAt A s v v' true

theorem created_any {M : Model} {A : Around} {E : Value → Shared → Prop} {s : Shared} {b : Bool} {u v : Tok} {Q : Bool → Shared → Prop} (h0 : (u == 0 || v == 0) = false) (hb : NoneBooked s.heap) (hq : ∀ b, Q b s) : wpAny M A (isSame.created b u v) Q E s := by
  cases b with
  | true => exact wpAny_isSame_str (y := ⟨#[]⟩) (z := ⟨#[]⟩) h0 hb hq
  | false => exact wpAny_isSame_str (y := ⟨#[]⟩) (z := ⟨#[0]⟩) h0 hb hq

theorem SelfEq.flt {x : UInt64} (h : Float64.cmp x x = some Ordering.eq) : SelfEq 0 (.flt x) := by
  intro A s Z v v' hu hb r r'
  cases r with | flt _ t ht =>
  cases r' with | flt _ u hu =>
  intro prog w E Q hq
  unfold eqBool
  refine wpAny_holding ?_
  refine wpAny_ite_split (fun hab => wpAny_bind (wpAny_rule (wpAny_pure hq))) (fun _ => ?_)
  have h0 : (t == 0 || u == 0) = false := by
    have a : t ≠ 0 := Nat.ne_of_gt ht
    have b : u ≠ 0 := Nat.ne_of_gt hu
    simp [a, b]
  refine wpAny_bind (created_any h0 hb fun b => ?_)
  cases b with
  | true => exact wpAny_pure hq
  | false =>
    refine wpAny_bind (AutoFloatOps.eq_0 ?_)
    rw [h]
    exact wpAny_truthy_bool hq

theorem reps_pair {h : Heap} {Z : Addr → Prop} {vs vs' : List Value} {ds : List D} (r : Reps h Z vs ds) (r' : Reps h Z vs' ds) (j : Nat) (h1 : j < vs.length) (h2 : j < vs'.length) : ∃ d ∈ ds, Rep h Z vs[j] d ∧ Rep h Z vs'[j] d := by
  obtain ⟨d, e, q⟩ := r.at j vs[j] (by simp)
  obtain ⟨d', e', q'⟩ := r'.at j vs'[j] (by simp)
  rw [e] at e'; cases e'
  exact ⟨d, List.mem_of_getElem? e, q, q'⟩

theorem SelfEq.tup {k : Nat} {ds : List D} (h : ∀ d ∈ ds, SelfEq k d) : SelfEq (k + 1) (.tup ds) := by
  intro A s Z v v' hu hb r r'
  cases r with | @tup a vs _ _ ht hr =>
  cases r' with | @tup a' vs' _ _ ht' hr' =>
  by_cases hne : a = a'
  · subst hne; exact EqAt.same _
  · refine EqAt.of_refs hne ?_
    have hl := hr.length
    have hl' := hr'.length
    have := RcAt.tuples (A := A) (e := fun _ => true) ht ht' (by omega) (fun j h1 h2 => by
      obtain ⟨d, hd, q, q'⟩ := reps_pair hr hr' j (by simpa using h1) (by simpa using h2)
      exact h d hd A.in1 s Z _ _ (by show A.units + 1 + k < cLine; omega) hb (by simpa using q) (by simpa using q'))
    have e : ((List.range (min vs.toArray.size vs'.toArray.size)).all (fun _ => true) && vs.toArray.size == vs'.toArray.size) = true := by simp [hl, hl']
    rw [e] at this; exact this

theorem Cmp.ne_same {C : Cx} {k : Nat} {ds : List D} (h : ∀ d ∈ ds, SelfEq k d) (hk : C.k + k ≤ 60) : Cmp C .NotEq (.lst ds) (.lst ds) false := by
  intro A s Z v v' hA B hk0 r r'
  cases r with | @lst a vs _ _ ht hr =>
  cases r' with | @lst a' vs' _ _ ht' hr' =>
  have hl := hr.length
  have hl' := hr'.length
  have hu := hA.uni
  have hc : cLine = 9900 := rfl
  have hb : NoneBooked s.heap := let ⟨mc, hn, e⟩ := B.nob; ⟨mc, hn.keeps hk0, e⟩
  have := RcNeAt.lists (A := A) (e := fun _ => true) ht.isList ht'.isList (by simp [hl, hl']) (by omega) (fun j h1 h2 => by
      obtain ⟨d, hd, q, q'⟩ := reps_pair hr hr' j (by simpa using h1) (by simpa using h2)
      exact h d hd A.in1 s Z _ _ (by show A.units + 1 + k < cLine; omega) hb (by simpa using q) (by simpa using q'))
  have e : (!(List.range vs.toArray.size).all (fun _ => true)) = false := by simp
  rw [e] at this
  exact this C.prog C.w _ _ ⟨.rfl' s, rfl⟩

/-- a lamp's parts and light -/
noncomputable def pN (x j : Nat) : Nat := (partOf (x : Int) ((8 * j : Nat) : Int)).toNat
theorem partOf_mod (x : Nat) (c : Int) : partOf (x : Int) c = partOf ((x % 64 : Nat) : Int) c := by
  unfold partOf
  simp only [Int.fdiv_eq_ediv_of_nonneg _ (by decide : (0 : Int) ≤ 8), Int.fdiv_eq_ediv_of_nonneg _ (by decide : (0 : Int) ≤ 32), Int.fmod_eq_emod_of_nonneg _ (by decide : (0 : Int) ≤ 4), Int.fmod_eq_emod_of_nonneg _ (by decide : (0 : Int) ≤ 2), Int.fmod_eq_emod_of_nonneg _ (by decide : (0 : Int) ≤ 24)]
  have e1 : (x : Int) / 8 % 4 = ((x % 64 : Nat) : Int) / 8 % 4 := by omega
  have e2 : (x : Int) / 32 % 2 = ((x % 64 : Nat) : Int) / 32 % 2 := by omega
  have e3 : (3 * (x : Int) - c) % 24 = (3 * ((x % 64 : Nat) : Int) - c) % 24 := by omega
  have e4 : (c - 3 * (x : Int)) % 24 = (c - 3 * ((x % 64 : Nat) : Int)) % 24 := by omega
  rw [e1, e2, e3, e4]
theorem pN_mod (x j : Nat) : pN x j = pN (x % 64) j := by
  unfold pN; rw [partOf_mod]
theorem pN_tab0 : ∀ x : Nat, x < 64 → (partOf (x : Int) 0 = (pN x 0 : Int) ∧ partOf (x : Int) 8 = (pN x 1 : Int) ∧ partOf (x : Int) 16 = (pN x 2 : Int)) ∧ pN x 0 ≤ 24 ∧ pN x 1 ≤ 24 ∧ pN x 2 ≤ 24 := by decide +kernel
theorem pN_tab (x : Nat) : (partOf (x : Int) 0 = (pN x 0 : Int) ∧ partOf (x : Int) 8 = (pN x 1 : Int) ∧ partOf (x : Int) 16 = (pN x 2 : Int)) ∧ pN x 0 ≤ 24 ∧ pN x 1 ≤ 24 ∧ pN x 2 ≤ 24 := by
  rw [partOf_mod x 0, partOf_mod x 8, partOf_mod x 16, pN_mod x 0, pN_mod x 1, pN_mod x 2]
  exact pN_tab0 _ (Nat.mod_lt _ (by decide))
theorem p32_tab : ∀ p < 25, Float64.ofFrac false p 32 = fx (8 * p) := by decide +kernel
noncomputable def lamp3 (x : Nat) : List D := [.flt (fx (8 * pN x 0)), .flt (fx (8 * pN x 1)), .flt (fx (8 * pN x 2))]

noncomputable def hsvChk (x a b c : Nat) : Bool :=
  let h := Float64.ofFrac false (x % 8) 8
  let s := Float64.ofFrac false (x / 32 % 2 + 1) 2
  let v := Float64.ofFrac false (x / 8 % 4) 4
  !(Float64.cmp s 0 == some Ordering.eq) && !(Float64.isInf h) && !(Float64.isInf s) && !(Float64.isInf v) && match Float64.decode (Float64.mul h six) with
  | .fin sg m e => decide ((Float64.truncOf sg m e).natAbs < 2 ^ 64) && (hsvOut h s v (Float64.truncOf sg m e) == some (fx (8 * a), fx (8 * b), fx (8 * c)))
  | _ => false
theorem hsv_tab : ∀ x < 64, hsvChk x (pN x 0) (pN x 1) (pN x 2) = true := by decide +kernel
theorem hsv_all (x : Nat) : hsvChk x (pN x 0) (pN x 1) (pN x 2) = true := by
  have := hsv_tab (x % 64) (Nat.mod_lt _ (by decide))
  rw [← pN_mod x 0, ← pN_mod x 1, ← pN_mod x 2] at this
  unfold hsvChk at this ⊢
  have e1 : x % 64 % 8 = x % 8 := by omega
  have e2 : x % 64 / 32 % 2 = x / 32 % 2 := by omega
  have e3 : x % 64 / 8 % 4 = x / 8 % 4 := by omega
  rw [e1, e2, e3] at this
  exact this

section
variable {C : Cx}
theorem lamp_cal {fa : Addr} (K : Known C "hsv_to_rgb" fa 3) (hk : C.k ≤ 50) (hint : C.G "int" = some (.type "int")) (x : Nat) :
    Cal C (.ref fa) [.flt (Float64.ofFrac false (x % 8) 8), .flt (Float64.ofFrac false (x / 32 % 2 + 1) 2), .flt (Float64.ofFrac false (x / 8 % 4) 4)] (.tup (lamp3 x)) ∧
    Float64.isInf (Float64.ofFrac false (x % 8) 8) = false ∧ Float64.isInf (Float64.ofFrac false (x / 32 % 2 + 1) 2) = false ∧ Float64.isInf (Float64.ofFrac false (x / 8 % 4) 4) = false := by
  have := hsv_all x
  unfold hsvChk at this
  simp only [Bool.and_eq_true, Bool.not_eq_true'] at this
  obtain ⟨⟨⟨⟨h1, h2⟩, h3⟩, h4⟩, h5⟩ := this
  refine ⟨?_, h2, h3, h4⟩
  split at h5
  · next sg m e hd =>
    simp only [Bool.and_eq_true, decide_eq_true_eq, beq_iff_eq] at h5
    exact hsv_cal K hk hint _ _ _ h1 hd h5.1 h5.2
  · cases h5
end
theorem self_lamp (x : Nat) : SelfEq 1 (.tup (lamp3 x)) := by
  obtain ⟨_, a, b, c⟩ := pN_tab x
  refine SelfEq.tup fun d hd => ?_
  have key : ∀ p ≤ 24, SelfEq 0 (.flt (fx (8 * p))) := fun p hp => SelfEq.flt (by rw [fx_cmp (by omega) (by omega), Nat.compare_eq_eq.mpr rfl])
  unfold lamp3 at hd
  simp only [List.mem_cons, List.not_mem_nil, or_false] at hd
  rcases hd with rfl | rfl | rfl
  · exact key _ a
  · exact key _ b
  · exact key _ c
end Mine
namespace Mine
section
variable (on off : Nat → Int) (a : Nat)

noncomputable def oft : Nat → Nat → Int
  | 0, _ => 1
  | k + 1, c => if c < 2 ^ k then oft k c * off k else oft k (c - 2 ^ k) * on k
noncomputable def accN (w : Nat → Nat) : Nat → Nat → Nat
  | 0, _ => 0
  | k + 1, c => if c < 2 ^ k then accN w k c else accN w k (c - 2 ^ k) + w k
noncomputable def sub (a : Nat) : Nat → Nat → Bool
  | 0, _ => true
  | k + 1, c => if c < 2 ^ k then (!a.testBit k && sub a k c) else sub a k (c - 2 ^ k)
noncomputable def sumF (k : Nat) (q : Nat → Bool) (h : Nat → Int) : Int := (((List.range (2 ^ k)).filter q).map h).sum

theorem oft_lo {k c : Nat} (h : c < 2 ^ k) : oft on off (k + 1) c = oft on off k c * off k := if_pos h
theorem oft_hi {k c : Nat} : oft on off (k + 1) (2 ^ k + c) = oft on off k c * on k := by
  show (if _ then _ else _) = _
  rw [if_neg (by omega), Nat.add_sub_cancel_left]
theorem acc_lo {w : Nat → Nat} {k c : Nat} (h : c < 2 ^ k) : accN w (k + 1) c = accN w k c := if_pos h
theorem acc_hi {w : Nat → Nat} {k c : Nat} : accN w (k + 1) (2 ^ k + c) = accN w k c + w k := by
  show (if _ then _ else _) = _
  rw [if_neg (by omega), Nat.add_sub_cancel_left]
theorem sub_lo {k c : Nat} (h : c < 2 ^ k) : sub a (k + 1) c = (!a.testBit k && sub a k c) := if_pos h
theorem sub_hi {k c : Nat} : sub a (k + 1) (2 ^ k + c) = sub a k c := by
  show (if _ then _ else _) = _
  rw [if_neg (by omega), Nat.add_sub_cancel_left]

theorem range_two (k : Nat) : List.range (2 ^ (k + 1)) = List.range (2 ^ k) ++ (List.range (2 ^ k)).map (2 ^ k + ·) := by
  have : 2 ^ (k + 1) = 2 ^ k + 2 ^ k := by rw [Nat.pow_succ]; omega
  rw [this, List.range_add]
theorem sumF_succ (k : Nat) (q : Nat → Bool) (h : Nat → Int) : sumF (k + 1) q h = sumF k q h + sumF k (fun c => q (2 ^ k + c)) (fun c => h (2 ^ k + c)) := by
  unfold sumF
  rw [range_two, List.filter_append, List.map_append, List.sum_append, List.filter_map, List.map_map]
  rfl
theorem sumF_congr {k : Nat} {q q' : Nat → Bool} {h h' : Nat → Int} (e : ∀ c < 2 ^ k, q c = q' c) (e' : ∀ c < 2 ^ k, q c = true → h c = h' c) : sumF k q h = sumF k q' h' := by
  unfold sumF
  have : (List.range (2 ^ k)).filter q = (List.range (2 ^ k)).filter q' := List.filter_congr fun c hc => e c (List.mem_range.mp hc)
  rw [← this]
  congr 1
  refine List.map_congr_left fun c hc => ?_
  have := List.mem_filter.mp hc
  exact e' c (List.mem_range.mp this.1) this.2
theorem sum_mulR (l : List Nat) (h : Nat → Int) (x : Int) : (l.map fun c => h c * x).sum = (l.map h).sum * x := by
  induction l with
  | nil => simp
  | cons a l ih => simp only [List.map_cons, List.sum_cons, ih, Int.add_mul]
theorem sumF_mul (k : Nat) (q : Nat → Bool) (h : Nat → Int) (x : Int) : sumF k q (fun c => h c * x) = sumF k q h * x := sum_mulR _ _ _
theorem sum_add (l : List Nat) (h g : Nat → Int) : (l.map fun c => h c + g c).sum = (l.map h).sum + (l.map g).sum := by
  induction l with
  | nil => simp
  | cons a l ih => simp only [List.map_cons, List.sum_cons, ih]; omega
theorem sumF_none (k : Nat) (h : Nat → Int) : sumF k (fun _ => false) h = 0 := by
  unfold sumF; rw [List.filter_eq_nil_iff.mpr (by simp)]; rfl

/-- the sum over the corners that hold a, by weight -/
noncomputable def T (k : Nat) (f : Nat → Int) : Int := sumF k (sub a k) (fun c => oft on off k c * f c)
theorem T_succ (k : Nat) (f : Nat → Int) : T on off a (k + 1) f = (if a.testBit k then 0 else off k) * T on off a k f + on k * T on off a k (fun c => f (2 ^ k + c)) := by
  unfold T
  rw [sumF_succ]
  congr 1
  · cases hb : a.testBit k
    · rw [sumF_congr (q' := sub a k) (h' := fun c => oft on off k c * f c * off k) (fun c hc => by rw [sub_lo a hc, hb]; rfl) (fun c hc _ => by rw [oft_lo on off hc, Int.mul_right_comm])]
      rw [sumF_mul, Int.mul_comm]; rfl
    · rw [sumF_congr (q' := fun _ => false) (h' := fun c => oft on off (k + 1) c * f c) (fun c hc => by rw [sub_lo a hc, hb]; rfl) (fun c hc _ => rfl), sumF_none]
      simp
  · rw [sumF_congr (q' := sub a k) (h' := fun c => oft on off k c * f (2 ^ k + c) * on k) (fun c hc => sub_hi a) (fun c hc _ => by rw [oft_hi on off, Int.mul_right_comm])]
    rw [sumF_mul, Int.mul_comm]
theorem T_congr {k : Nat} {f g : Nat → Int} (h : ∀ c < 2 ^ k, f c = g c) : T on off a k f = T on off a k g := sumF_congr (fun _ _ => rfl) fun c hc _ => by rw [h c hc]
theorem T_zero (f : Nat → Int) : T on off a 0 f = f 0 := by
  show sumF 0 (fun _ => true) (fun c => 1 * f c) = f 0
  simp [sumF]
theorem T_mono (h0 : ∀ k, 0 ≤ on k) (h1 : ∀ k, 0 ≤ off k) : ∀ (k : Nat) (f g : Nat → Int), (∀ c < 2 ^ k, f c ≤ g c) → T on off a k f ≤ T on off a k g
  | 0, f, g, h => by rw [T_zero, T_zero]; exact h 0 (by decide)
  | k + 1, f, g, h => by
    rw [T_succ, T_succ]
    have e : 2 ^ (k + 1) = 2 ^ k + 2 ^ k := by rw [Nat.pow_succ]; omega
    have i1 := T_mono h0 h1 k f g (fun c hc => h c (by omega))
    have i2 := T_mono h0 h1 k (fun c => f (2 ^ k + c)) (fun c => g (2 ^ k + c)) (fun c hc => h _ (by omega))
    have p0 : 0 ≤ (if a.testBit k then 0 else off k) := by split; exact Int.le_refl _; exact h1 k
    exact Int.add_le_add (Int.mul_le_mul_of_nonneg_left i1 p0) (Int.mul_le_mul_of_nonneg_left i2 (h0 k))
theorem T_add (k : Nat) (f g : Nat → Int) : T on off a k (fun c => f c + g c) = T on off a k f + T on off a k g := by
  unfold T sumF
  rw [← sum_add]
  congr 1
  exact List.map_congr_left fun c _ => Int.mul_add _ _ _
theorem T_const (k : Nat) (x : Int) : T on off a k (fun _ => x) = T on off a k (fun _ => 1) * x := by
  unfold T
  rw [← sumF_mul]
  exact sumF_congr (fun _ _ => rfl) fun c _ _ => by rw [Int.mul_one]

noncomputable def Inc : Nat → (Nat → Int) → Prop
  | 0, _ => True
  | k + 1, f => Inc k f ∧ Inc k (fun c => f (2 ^ k + c)) ∧ ∀ c < 2 ^ k, f c ≤ f (2 ^ k + c)
theorem Inc.congr : ∀ {k : Nat} {f g : Nat → Int}, (∀ c < 2 ^ k, f c = g c) → Inc k f → Inc k g
  | 0, _, _, _, _ => trivial
  | k + 1, f, g, h, i => by
    have e : 2 ^ (k + 1) = 2 ^ k + 2 ^ k := by rw [Nat.pow_succ]; omega
    refine ⟨i.1.congr fun c hc => h c (by omega), i.2.1.congr fun c hc => h _ (by omega), fun c hc => ?_⟩
    rw [← h c (by omega), ← h (2 ^ k + c) (by omega)]; exact i.2.2 c hc
theorem Inc.const : ∀ (k : Nat) (x : Int), Inc k (fun _ => x)
  | 0, _ => trivial
  | k + 1, x => ⟨Inc.const k x, Inc.const k x, fun _ _ => Int.le_refl _⟩
/-- a rising function of three rising ones -/
theorem Inc.map3 (φ : Int → Int → Int → Int) (hφ : ∀ x y z x' y' z', x ≤ x' → y ≤ y' → z ≤ z' → φ x y z ≤ φ x' y' z') : ∀ {k : Nat} {f g h : Nat → Int}, Inc k f → Inc k g → Inc k h → Inc k (fun c => φ (f c) (g c) (h c))
  | 0, _, _, _, _, _, _ => trivial
  | k + 1, f, g, h, i, j, l => ⟨Inc.map3 φ hφ i.1 j.1 l.1, Inc.map3 φ hφ i.2.1 j.2.1 l.2.1, fun c hc => hφ _ _ _ _ _ _ (i.2.2 c hc) (j.2.2 c hc) (l.2.2 c hc)⟩
theorem Inc.acc (w : Nat → Nat) : ∀ k, Inc k (fun c => (accN w k c : Int))
  | 0 => trivial
  | k + 1 => by
    refine ⟨(Inc.acc w k).congr fun c hc => by rw [acc_lo hc], Inc.congr (f := fun c => (accN w k c : Int) + (w k : Int)) (fun c hc => by show _ = ((accN w (k + 1) (2 ^ k + c) : Nat) : Int); rw [acc_hi]; rfl) ?_, fun c hc => ?_⟩
    · exact Inc.map3 (fun x _ _ => x + (w k : Int)) (fun _ _ _ _ _ _ h _ _ => by omega) (Inc.acc w k) (Inc.acc w k) (Inc.acc w k)
    · show ((accN w (k + 1) c : Nat) : Int) ≤ ((accN w (k + 1) (2 ^ k + c) : Nat) : Int)
      rw [acc_lo hc, acc_hi]; omega
noncomputable def mark (a k c : Nat) : Int := if sub a k c then 1 else 0
theorem Inc.mark (a : Nat) : ∀ k, Inc k (mark a k)
  | 0 => trivial
  | k + 1 => by
    refine ⟨?_, (Inc.mark a k).congr fun c hc => by unfold Mine.mark; rw [sub_hi a], fun c hc => ?_⟩
    · cases hb : a.testBit k
      · exact (Inc.mark a k).congr fun c hc => by unfold Mine.mark; rw [sub_lo a hc, hb]; rfl
      · exact (Inc.const k 0).congr fun c hc => by unfold Mine.mark; rw [sub_lo a hc, hb]; rfl
    · unfold Mine.mark
      rw [sub_lo a hc, sub_hi a]
      cases a.testBit k <;> cases sub a k c <;> decide

theorem harris (h0 : ∀ k, 0 ≤ on k) (h1 : ∀ k, 0 ≤ off k) : ∀ (k : Nat) (f g : Nat → Int), Inc k f → Inc k g → T on off a k f * T on off a k g ≤ T on off a k (fun _ => 1) * T on off a k (fun c => f c * g c)
  | 0, f, g, _, _ => by rw [T_zero, T_zero, T_zero, T_zero, Int.one_mul]; exact Int.le_refl _
  | k + 1, f, g, i, j => by
    have x0 := harris h0 h1 k f g i.1 j.1
    have x1 := harris h0 h1 k _ _ i.2.1 j.2.1
    have f01 := T_mono on off a h0 h1 k f (fun c => f (2 ^ k + c)) i.2.2
    have g01 := T_mono on off a h0 h1 k g (fun c => g (2 ^ k + c)) j.2.2
    have p0 : 0 ≤ (if a.testBit k then 0 else off k) := by split; exact Int.le_refl _; exact h1 k
    have p1 := h0 k
    rw [T_succ, T_succ, T_succ, T_succ]
    generalize (if a.testBit k then 0 else off k) = p at *
    generalize on k = q at *
    generalize T on off a k (fun _ => 1) = m at *
    generalize T on off a k f = F0 at *
    generalize T on off a k g = G0 at *
    generalize T on off a k (fun c => f c * g c) = H0 at *
    generalize T on off a k (fun c => f (2 ^ k + c)) = F1 at *
    generalize T on off a k (fun c => g (2 ^ k + c)) = G1 at *
    generalize T on off a k (fun c => f (2 ^ k + c) * g (2 ^ k + c)) = H1 at *
    have y0 : 0 ≤ (p + q) * (p * (m * H0 - F0 * G0)) := Int.mul_nonneg (by omega) (Int.mul_nonneg p0 (by omega))
    have y1 : 0 ≤ (p + q) * (q * (m * H1 - F1 * G1)) := Int.mul_nonneg (by omega) (Int.mul_nonneg p1 (by omega))
    have y2 : 0 ≤ p * q * ((F1 - F0) * (G1 - G0)) := Int.mul_nonneg (Int.mul_nonneg p0 p1) (Int.mul_nonneg (by omega) (by omega))
    grind

-- the totals
noncomputable def wh : Nat → Int
  | 0 => 1
  | k + 1 => wh k * (on k + off k)
noncomputable def dpr : Nat → Int
  | 0 => 1
  | k + 1 => dpr k * (if a.testBit k then on k else on k + off k)
theorem T_one : ∀ k, T on off a k (fun _ => 1) = dpr on off a k
  | 0 => by rw [T_zero]; rfl
  | k + 1 => by
    rw [T_succ, T_one k]
    show _ = dpr on off a k * _
    cases a.testBit k
    · simp only [Bool.false_eq_true, if_false]; rw [← Int.add_mul, Int.mul_comm, Int.add_comm]
    · simp only [if_true]; rw [Int.zero_mul, Int.zero_add, Int.mul_comm]
theorem wh_pos (hs : ∀ k, 0 < on k + off k) : ∀ k, 0 < wh on off k
  | 0 => Int.one_pos
  | k + 1 => Int.mul_pos (wh_pos hs k) (hs k)
theorem wh_dvd (k : Nat) : ∀ m, ∃ r, wh on off (k + m) = wh on off k * r
  | 0 => ⟨1, by simp⟩
  | m + 1 => by
    obtain ⟨r, e⟩ := wh_dvd k m
    exact ⟨r * (on (k + m) + off (k + m)), by show wh on off (k + m) * (on (k + m) + off (k + m)) = _; rw [e, Int.mul_assoc]⟩

/-- due, as the program has it after k turns -/
noncomputable def dl (n : Nat) : Nat → Int
  | 0 => wh on off n
  | k + 1 => if a.testBit k then (dl n k).fdiv (on k + off k) * on k else dl n k
theorem dl_at (hs : ∀ k, 0 < on k + off k) (n : Nat) : ∀ k, k ≤ n → ∃ r, dl on off a n k = dpr on off a k * r ∧ wh on off n = wh on off k * r
  | 0, _ => ⟨wh on off n, by simp [dl, dpr], by simp [wh]⟩
  | k + 1, h => by
    obtain ⟨r, e1, e2⟩ := dl_at hs n k (by omega)
    obtain ⟨r', e3⟩ := wh_dvd on off (k + 1) (n - (k + 1))
    rw [show k + 1 + (n - (k + 1)) = n by omega] at e3
    have hw := wh_pos on off hs k
    have hsk := hs k
    have er : r = (on k + off k) * r' := by
      have e4 : wh on off k * r = wh on off k * ((on k + off k) * r') := by rw [← e2, e3]; show wh on off k * _ * r' = _; rw [Int.mul_assoc]
      exact Int.eq_of_mul_eq_mul_left (by omega) e4
    refine ⟨r', ?_, e3⟩
    show (if a.testBit k then (dl on off a n k).fdiv (on k + off k) * on k else dl on off a n k) = dpr on off a k * (if a.testBit k then on k else on k + off k) * r'
    rw [e1, er]
    cases a.testBit k
    · simp only [Bool.false_eq_true, if_false]; rw [Int.mul_assoc]
    · simp only [if_true]
      rw [Int.mul_left_comm, Int.mul_fdiv_cancel_left _ (by omega), Int.mul_right_comm]
theorem dl_end (hs : ∀ k, 0 < on k + off k) (n : Nat) : dl on off a n n = dpr on off a n := by
  obtain ⟨r, e1, e2⟩ := dl_at on off a hs n n (Nat.le_refl _)
  have hw := wh_pos on off hs n
  have : r = 1 := by
    have e : wh on off n * r = wh on off n * 1 := by rw [← e2, Int.mul_one]
    exact Int.eq_of_mul_eq_mul_left (by omega) e
  rw [e1, this, Int.mul_one]

/-- one lamp's share of the mean -/
noncomputable def mt (w : Nat → Int) (n i : Nat) : Int := if a.testBit i then w i * wh on off n else w i * on i * (wh on off n).fdiv (on i + off i)
noncomputable def mean (w : Nat → Int) (n : Nat) : Nat → Int
  | 0 => 0
  | k + 1 => mean w n k + mt on off a w n k
theorem mt_succ (hs : ∀ k, 0 < on k + off k) (w : Nat → Int) (n i : Nat) (h : i < n) : mt on off a w (n + 1) i = mt on off a w n i * (on n + off n) := by
  unfold mt
  obtain ⟨r, e⟩ := wh_dvd on off (i + 1) (n - (i + 1))
  rw [show i + 1 + (n - (i + 1)) = n by omega] at e
  have hsi := hs i
  have e' : wh on off n = (on i + off i) * (wh on off i * r) := by rw [e]; show wh on off i * _ * r = _; rw [Int.mul_comm (wh on off i), Int.mul_assoc]
  have e1 : (wh on off n).fdiv (on i + off i) = wh on off i * r := by rw [e', Int.mul_fdiv_cancel_left _ (by omega)]
  have e2 : (wh on off (n + 1)).fdiv (on i + off i) = wh on off i * r * (on n + off n) := by
    show (wh on off n * (on n + off n)).fdiv _ = _
    rw [e', Int.mul_assoc, Int.mul_fdiv_cancel_left _ (by omega)]
  rw [e1, e2]
  cases a.testBit i
  · simp only [Bool.false_eq_true, if_false]; simp only [Int.mul_assoc]
  · simp only [if_true]; show w i * (wh on off n * _) = _; rw [Int.mul_assoc]
theorem mean_succ (hs : ∀ k, 0 < on k + off k) (w : Nat → Int) (n : Nat) : ∀ k, k ≤ n → mean on off a w (n + 1) k = mean on off a w n k * (on n + off n)
  | 0, _ => by simp [mean]
  | k + 1, h => by
    show mean on off a w (n + 1) k + mt on off a w (n + 1) k = (mean on off a w n k + mt on off a w n k) * _
    rw [mean_succ hs w n k (by omega), mt_succ on off a hs w n k (by omega), Int.add_mul]
theorem mean_law (hs : ∀ k, 0 < on k + off k) (w : Nat → Nat) : ∀ n, wh on off n * T on off a n (fun c => (accN w n c : Int)) = dpr on off a n * mean on off a (fun i => (w i : Int)) n n
  | 0 => by rw [T_zero]; simp [accN, mean]
  | n + 1 => by
    have ih := mean_law hs w n
    have hT : T on off a (n + 1) (fun c => (accN w (n + 1) c : Int)) = (if a.testBit n then 0 else off n) * T on off a n (fun c => (accN w n c : Int)) + on n * (T on off a n (fun c => (accN w n c : Int)) + dpr on off a n * (w n : Int)) := by
      rw [T_succ, T_congr on off a (f := fun c => (accN w (n + 1) c : Int)) (g := fun c => (accN w n c : Int)) (fun c hc => by rw [acc_lo hc]),
        T_congr on off a (f := fun c => (accN w (n + 1) (2 ^ n + c) : Int)) (g := fun c => (accN w n c : Int) + (w n : Int)) (fun c hc => by rw [acc_hi]; rfl), T_add, T_const, T_one]
    have hM : mean on off a (fun i => (w i : Int)) (n + 1) (n + 1) = mean on off a (fun i => (w i : Int)) n n * (on n + off n) + mt on off a (fun i => (w i : Int)) (n + 1) n := by
      show mean on off a _ (n + 1) n + _ = _
      rw [mean_succ on off a hs _ n n (Nat.le_refl _)]
    rw [hT, hM]
    have hm : mt on off a (fun i => (w i : Int)) (n + 1) n = if a.testBit n then (w n : Int) * (wh on off n * (on n + off n)) else (w n : Int) * on n * wh on off n := by
      unfold mt
      have hsn := hs n
      have : (wh on off (n + 1)).fdiv (on n + off n) = wh on off n := by
        show (wh on off n * (on n + off n)).fdiv _ = _
        rw [Int.mul_comm, Int.mul_fdiv_cancel_left _ (by omega)]
      rw [this]; rfl
    rw [hm]
    show wh on off n * (on n + off n) * _ = dpr on off a n * _ * _
    generalize T on off a n (fun c => (accN w n c : Int)) = t at *
    generalize mean on off a (fun i => (w i : Int)) n n = m at *
    generalize wh on off n = W at *
    generalize dpr on off a n = d at *
    generalize on n = p at *
    generalize off n = q at *
    generalize (w n : Int) = x at *
    cases a.testBit n
    · simp only [Bool.false_eq_true, if_false]; grind
    · simp only [if_true]; grind
end

theorem sub_tab4 : ∀ a < 16, ∀ c < 16, sub a 4 c = (Nat.land a c == a) := by decide +kernel
theorem sub_tab5 : ∀ a < 32, ∀ c < 32, sub a 5 c = (Nat.land a c == a) := by decide +kernel
end Mine
namespace Mine

structure LB (C : Cx) where
  (y h v p e pa fr d : Addr)
  t : Tok
  yiq : Known C "rgb_to_yiq" y 1
  hls : Known C "rgb_to_hls" h 2
  hsv : Known C "hsv_to_rgb" v 3
  flags : Known C "pretty_flags" p 6
  tab : Table C "COMPILER_FLAG_NAMES" d flagTab
  em : Known C "_ellipsis_match" e 9
  ell : C.G "ELLIPSIS_MARKER" = some (.str dots t)
  parts : Known C "_law_parts" pa 11
  friends : Known C "_law_friends" fr 12
  len : C.G "len" = some (.builtin "len")
  range : C.G "range" = some (.type "range")
  max : C.G "max" = some (.builtin "max")
  min : C.G "min" = some (.builtin "min")
  sum : C.G "sum" = some (.builtin "sum")
  int : C.G "int" = some (.type "int")
  hex : C.G "hex" = some (.builtin "hex")
  k : C.k ≤ 40

noncomputable def onN (x : Nat) : Int := ((x : Int).fdiv 64).fmod 3 + 1
noncomputable def offN (x : Nat) : Int := (x : Int).fdiv 192 + 1
theorem night_tab : ∀ x < 576, (1 ≤ onN x ∧ onN x ≤ 3) ∧ 1 ≤ offN x ∧ offN x ≤ 3 := by decide +kernel
noncomputable def plainD (x : Nat) : D := .lst [.int (pN x 0), .int (pN x 1), .int (pN x 2)]
noncomputable def lawSt7 (ns : List Int) (n : Nat) (xs : Nat → Nat) : St :=
  upd (upd (upd (upd (upd ini "script" (.scr ns)) "count" (.int n)) "nights" (.lst ((List.range n).map fun k => .tup [.int (onN (xs k)), .int (offN (xs k))]))) "plain" (.lst ((List.range n).map fun k => plainD (xs k)))) "lamps" (.lst ((List.range n).map fun k => .tup (lamp3 (xs k))))
noncomputable def nOf (ns : List Int) : Nat := if 4 < ns.length then 5 else 4
noncomputable def heapsL : List Int := [240, 91, 174, 17, 460]
noncomputable def xOf (ns : List Int) (k : Nat) : Nat := ((at0 heapsL k + (pickNums ns (some (k : Int)) (some 60) (some (nOf ns : Int))).sum).fmod 576).toNat
theorem nOf_or (ns : List Int) : nOf ns = 4 ∨ nOf ns = 5 := by unfold nOf; split <;> simp
theorem fmod_toNat {a b : Int} (hb : 0 < b) : ((a.fmod b).toNat : Int) = a.fmod b ∧ (a.fmod b).toNat < b.toNat := by
  have h1 : a.fmod b = a % b := Int.fmod_eq_emod_of_nonneg _ (by omega)
  have h2 := Int.emod_nonneg a (show b ≠ 0 by omega)
  have h3 := Int.emod_lt_of_pos a hb
  rw [h1]; omega
theorem xOf_lt (ns : List Int) (k : Nat) : xOf ns k < 576 := (fmod_toNat (by decide)).2

theorem natFrac {a b : Nat} : Float64.ofFrac (decide ((a : Int) < 0) != decide ((b : Int) < 0)) (a : Int).natAbs (b : Int).natAbs = Float64.ofFrac false a b := by
  have h1 : ¬ ((a : Int) < 0) := by omega
  have h2 : ¬ ((b : Int) < 0) := by omega
  simp [h1, h2]
theorem fx_fin : ∀ p < 25, Float64.isInf (Float64.ofFrac false p 32) = false := by decide +kernel

section
variable {C : Cx}
theorem law_a (B : LB C) (ns : List Int) (hns : ns.length ≤ 100) {o : Out} (h : Ex C (fnScope 13) (lawSt7 ns (nOf ns) (xOf ns)) ((fnBody 13).drop 7) o) : Ex C (fnScope 13) (upd (params ["script"] [.scr ns]) "count" (.int (nOf ns))) ((fnBody 13).drop 1) o := by
  have hk : C.k ≤ 50 := Nat.le_trans B.k (by decide)
  have sl : (2 : Nat) ^ 24 = sizeLine := rfl
  have hn5 : nOf ns ≤ 5 := by rcases nOf_or ns with e | e <;> omega
  have hx := xOf_lt ns
  conv => arg 4; whnf
  refine Ex.cons (Ex1.assign (d := .lst (heapsL.map .int)) (Ev.list (.cons .int (.cons .int (.cons .int (.cons .int (.cons .int .nil)))))) rfl) ?_
  refine Ex.cons (Ex1.assignN (n := nOf ns) (fun k => .int (xOf ns k)) (by decide +kernel) rfl (Ev.call (by decide +kernel) B.range (.type _) (.cons (.name rfl) .nil) .range) (by omega) (fun k hk' => ?_) rfl) ?_
  · refine Ev.conv (Ev.binop (Ev.binop (Ev.item (.name rfl) (.name rfl) (by omega) (by omega) (by rw [Int.toNat_natCast]; exact at0_get (by show k < 5; omega))) (Ev.call (by decide +kernel) B.sum (.builtin _) (.cons (Ev.sliceFull (.name rfl) (.name rfl) .int (.name rfl) (by rcases nOf_or ns with e | e <;> omega) (by omega)) .nil) .sum) .add_int) .int (.mod_int (by decide))) ?_
    rw [← (fmod_toNat (b := 576) (by decide)).1]; rfl
  refine Ex.cons (Ex1.assignL (List.range (nOf ns)) (fun k => .int (xOf ns k)) (fun k => .tup [.int (onN (xOf ns k)), .int (offN (xOf ns k))]) (by decide +kernel) rfl (.name rfl) (.lst _) (by rw [List.length_range]; omega) (fun k hk' => ?_) rfl) ?_
  · exact Ev.tuple (.cons (Ev.binop (Ev.binop (Ev.binop (.name rfl) .int (.floordiv_int (by decide) (by decide))) .int (.mod_int (by decide))) .int .add_int) (.cons (Ev.binop (Ev.binop (.name rfl) .int (.floordiv_int (by decide) (by decide))) .int .add_int) .nil))
  refine Ex.cons (Ex1.assignL (List.range (nOf ns)) (fun k => .int (xOf ns k)) (fun k => plainD (xOf ns k)) (by decide +kernel) rfl (.name rfl) (.lst _) (by rw [List.length_range]; omega) (fun k hk' => ?_) rfl) ?_
  · refine Ev.call (by decide +kernel) B.parts.g B.parts.callee (.cons (.name rfl) .nil) ((parts_cal B.parts hk B.max B.min _).conv ?_)
    obtain ⟨⟨a, b, c⟩, _⟩ := pN_tab (xOf ns k)
    unfold partsOf plainD; rw [a, b, c]; rfl
  refine Ex.cons (Ex1.assignL (List.range (nOf ns)) (fun k => .int (xOf ns k)) (fun k => .tup (lamp3 (xOf ns k))) (by decide +kernel) rfl (.name rfl) (.lst _) (by rw [List.length_range]; omega) (fun k hk' => ?_) rfl) ?_
  · obtain ⟨cal, i1, i2, i3⟩ := lamp_cal B.hsv hk B.int (xOf ns k)
    have e1 : ((xOf ns k : Int).fmod 8) = ((xOf ns k % 8 : Nat) : Int) := by rw [Int.fmod_eq_emod_of_nonneg _ (by decide)]; rfl
    have e2 : (((xOf ns k : Int).fdiv 32).fmod 2 + 1) = ((xOf ns k / 32 % 2 + 1 : Nat) : Int) := by rw [Int.fmod_eq_emod_of_nonneg _ (by decide), Int.fdiv_eq_ediv_of_nonneg _ (by decide)]; rfl
    have e3 : (((xOf ns k : Int).fdiv 8).fmod 4) = ((xOf ns k / 8 % 4 : Nat) : Int) := by rw [Int.fmod_eq_emod_of_nonneg _ (by decide), Int.fdiv_eq_ediv_of_nonneg _ (by decide)]; rfl
    refine Ev.call (by decide +kernel) B.hsv.g B.hsv.callee (.cons (Ev.conv (Ev.binop (Ev.conv (Ev.binop (.name rfl) .int (.mod_int (by decide))) (by rw [e1])) .int (.div_int (by decide) (by rw [show (8 : Int) = ((8 : Nat) : Int) from rfl, natFrac]; exact i1))) (by rw [show (8 : Int) = ((8 : Nat) : Int) from rfl, natFrac]))
      (.cons (Ev.conv (Ev.binop (Ev.conv (Ev.binop (Ev.binop (Ev.binop (.name rfl) .int (.floordiv_int (by decide) (by decide))) .int (.mod_int (by decide))) .int .add_int) (by rw [e2])) .int (.div_int (by decide) (by rw [show (2 : Int) = ((2 : Nat) : Int) from rfl, natFrac]; exact i2))) (by rw [show (2 : Int) = ((2 : Nat) : Int) from rfl, natFrac]))
      (.cons (Ev.conv (Ev.binop (Ev.conv (Ev.binop (Ev.binop (.name rfl) .int (.floordiv_int (by decide) (by decide))) .int (.mod_int (by decide))) (by rw [e3])) .int (.div_int (by decide) (by rw [show (4 : Int) = ((4 : Nat) : Int) from rfl, natFrac]; exact i3))) (by rw [show (4 : Int) = ((4 : Nat) : Int) from rfl, natFrac])) .nil))) cal
  have self : ∀ d ∈ (List.range (nOf ns)).map (fun k => D.tup (lamp3 (xOf ns k))), SelfEq 1 d := fun d hd => by
    obtain ⟨k, _, rfl⟩ := List.mem_map.mp hd
    exact self_lamp (xOf ns k)
  refine Ex.cons (Ex1.iff (c := false) (Tst.cmp (.name rfl) (Ev.compL (List.range (nOf ns)) (fun k => plainD (xOf ns k)) (fun k => .tup (lamp3 (xOf ns k))) (by decide +kernel) rfl (.name rfl) (.lst _) (by rw [List.length_range]; omega) (fun k hk' => ?_)) (Cmp.ne_same self (by have := B.k; omega))) (fun q => by cases q) fun _ => Ex.nil) ?_
  · obtain ⟨_, a, b, c⟩ := pN_tab (xOf ns k)
    have one : ∀ p : Nat, p ≤ 24 → Bop C .Div (.int (p : Int)) (.int 32) (.flt (fx (8 * p))) := fun p hp => by
      have e := natFrac (a := p) (b := 32)
      have h1 : Bop C .Div (.int (p : Int)) (.int ((32 : Nat) : Int)) _ := Bop.div_int (by decide) (by rw [e]; exact fx_fin p (by omega))
      rw [e, p32_tab p (by omega)] at h1
      exact h1
    exact Ev.tuple (.cons (Ev.binop (Ev.item (.name rfl) .int (by decide) (by decide) rfl) .int (one _ a)) (.cons (Ev.binop (Ev.item (.name rfl) .int (by decide) (by decide) rfl) .int (one _ b)) (.cons (Ev.binop (Ev.item (.name rfl) .int (by decide) (by decide) rfl) .int (one _ c)) .nil)))
  refine Ex.less (σ := lawSt7 ns (nOf ns) (xOf ns)) (.upd rfl (.upd rfl (.upd rfl (.upd rfl (.upd rfl .ini))))) ?_
  exact h
end
end Mine
namespace Mine

noncomputable def OnF (xs : Nat → Nat) (k : Nat) : Int := onN (xs k)
noncomputable def OffF (xs : Nat → Nat) (k : Nat) : Int := offN (xs k)
noncomputable def PF (xs : Nat → Nat) (j k : Nat) : Nat := pN (xs k) j
noncomputable def oftD (xs : Nat → Nat) (k : Nat) : D := .lst ((List.range (2 ^ k)).map fun c => .int (oft (OnF xs) (OffF xs) k c))
noncomputable def mixD (xs : Nat → Nat) (k c : Nat) : D := .lst ((List.range 3).map fun j => .flt (fx (8 * accN (PF xs j) k c)))
noncomputable def sumD (xs : Nat → Nat) (k c : Nat) : D := .lst ((List.range 3).map fun j => .int ((accN (PF xs j) k c : Nat) : Int))
noncomputable def loopSt (ns : List Int) (n : Nat) (xs : Nat → Nat) (k : Nat) : St :=
  upd (upd (upd (upd (lawSt7 ns n xs) "whole" (.int (wh (OnF xs) (OffF xs) k))) "often" (oftD xs k)) "mixes" (.lst ((List.range (2 ^ k)).map (mixD xs k)))) "sums" (.lst ((List.range (2 ^ k)).map (sumD xs k)))

theorem acc_le {w : Nat → Nat} {b : Nat} (hw : ∀ k, w k ≤ b) : ∀ k c, accN w k c ≤ b * k
  | 0, c => Nat.zero_le _
  | k + 1, c => by
    have h1 := acc_le hw k c
    have h2 := acc_le hw k (c - 2 ^ k)
    have h3 := hw k
    rw [Nat.mul_succ]
    rcases Nat.lt_or_ge c (2 ^ k) with q | q
    · rw [acc_lo q]; omega
    · have e := acc_hi (w := w) (k := k) (c := c - 2 ^ k)
      rw [Nat.add_sub_cancel' q] at e
      rw [e]; omega
theorem PF_le {xs : Nat → Nat} (hx : ∀ k, xs k < 576) (j : Nat) (hj : j < 3) (k : Nat) : PF xs j k ≤ 24 := by
  obtain ⟨_, a, b, c⟩ := pN_tab (xs k)
  match j, hj with
  | 0, _ => exact a
  | 1, _ => exact b
  | 2, _ => exact c
theorem lamp3_eq (xs : Nat → Nat) (k : Nat) : lamp3 (xs k) = (List.range 3).map fun j => .flt (fx (8 * PF xs j k)) := rfl
theorem plain_get (x : Nat) {j : Nat} (hj : j < 3) : [D.int (pN x 0 : Int), .int (pN x 1 : Int), .int (pN x 2 : Int)][j]? = some (.int (pN x j : Int)) := by
  match j, hj with
  | 0, _ => rfl
  | 1, _ => rfl
  | 2, _ => rfl
theorem plainD_eq (xs : Nat → Nat) (k : Nat) : plainD (xs k) = .lst ((List.range 3).map fun j => .int (PF xs j k : Int)) := rfl
theorem get_map {α : Type} {f : Nat → α} {n i : Nat} (h : i < n) : ((List.range n).map f)[i]? = some (f i) := by simp [h]
theorem two_halves {α : Type} (f : Nat → α) (k : Nat) : (List.range (2 ^ (k + 1))).map f = (List.range (2 ^ k)).map f ++ (List.range (2 ^ k)).map (fun c => f (2 ^ k + c)) := by
  rw [range_two, List.map_append, List.map_map]; rfl

section
variable {C : Cx}
noncomputable def stm (n : Nat) : Stmt := ((fnBody 13)[n]?).getD (.Pass ⟨0, 0, 0, 0⟩)
noncomputable def forBody : Stmt → List Stmt
  | .For _ _ b _ _ => b
  | _ => []

theorem loop_b (B : LB C) (ns : List Int) (n : Nat) (hn : n ≤ 5) (xs : Nat → Nat) (hx : ∀ k, xs k < 576) (k : Nat) (hk : k < n) :
    Ex C (fnScope 13) (upd (loopSt ns n xs k) "k" (.int (k : Int))) (forBody (stm 11)) (.next (loopSt ns n xs (k + 1))) := by
  conv => arg 4; whnf
  have hp : 2 ^ k ≤ 16 := Nat.le_trans (Nat.pow_le_pow_right (by decide) (show k ≤ 4 by omega)) (by decide)
  have sl : (2 : Nat) ^ 24 = sizeLine := rfl
  obtain ⟨⟨n1, n2⟩, n3, n4⟩ := night_tab _ (hx k)
  refine Ex.cons (Ex1.unpack (ns := [("on", _), ("off", _)]) (d := .tup [.int (onN (xs k)), .int (offN (xs k))]) (Ev.item (.name rfl) (.name rfl) (by omega) (by omega) (by rw [Int.toNat_natCast]; exact get_map hk)) (.tup _) (by decide +kernel) rfl (Nat.le_of_ble_eq_true rfl)) ?_
  refine Ex.cons (Ex1.aug rfl (Ev.binop (.name rfl) (.name rfl) .add_int) (.mul_int (.inr (by omega))) rfl) ?_
  refine Ex.cons (Ex1.assign (d := oftD xs (k + 1)) (Ev.conv (Ev.binop
    (Ev.compL (List.range (2 ^ k)) (fun c => .int (oft (OnF xs) (OffF xs) k c)) (fun c => .int (oft (OnF xs) (OffF xs) k c * offN (xs k))) (by decide +kernel) rfl (.name rfl) (.lst _) (by rw [List.length_range]; omega) (fun c hc => Ev.binop (.name rfl) (.name rfl) (.mul_int (.inr (by omega)))))
    (Ev.compL (List.range (2 ^ k)) (fun c => .int (oft (OnF xs) (OffF xs) k c)) (fun c => .int (oft (OnF xs) (OffF xs) k c * onN (xs k))) (by decide +kernel) rfl (.name rfl) (.lst _) (by rw [List.length_range]; omega) (fun c hc => Ev.binop (.name rfl) (.name rfl) (.mul_int (.inr (by omega))))) (.add_lst (by simp only [List.length_map, List.length_range]; omega))) ?_) rfl) ?_
  · unfold oftD
    rw [two_halves]
    congr 2
    · exact List.map_congr_left fun c hc => by rw [oft_lo _ _ (List.mem_range.mp hc)]; rfl
    · exact List.map_congr_left fun c hc => by rw [oft_hi]; rfl
  refine Ex.cons (Ex1.assign (d := .lst ((List.range (2 ^ (k + 1))).map (mixD xs (k + 1)))) (Ev.conv (Ev.binop (.name rfl)
    (Ev.compL (List.range (2 ^ k)) (mixD xs k) (fun c => .lst ((List.range 3).map fun j => .flt (fx (8 * (accN (PF xs j) k c + PF xs j k))))) (by decide +kernel) rfl (.name rfl) (.lst _) (by rw [List.length_range]; omega) (fun c hc => ?_)) (.add_lst (by simp only [List.length_map, List.length_range]; omega))) ?_) rfl) ?_
  · refine Ev.compN (n := 3) _ (by decide +kernel) rfl (Ev.call (by decide +kernel) B.range (.type _) (.cons .int .nil) .range) (by decide) (fun j hj => ?_)
    have h1 := acc_le (PF_le hx j hj) k c
    have h2 := PF_le hx j hj k
    refine Ev.conv (Ev.binop (Ev.item (.name rfl) (.name rfl) (by omega) (by omega) (by rw [Int.toNat_natCast]; exact get_map hj)) (Ev.itemTup (Ev.item (.name rfl) (.name rfl) (by omega) (by omega) (by rw [Int.toNat_natCast]; exact get_map hk)) (.name rfl) (by omega) (by omega) (by rw [Int.toNat_natCast, lamp3_eq]; exact get_map hj)) .add_flt) ?_
    rw [fx_add (by omega), Nat.mul_add]
  · rw [two_halves]
    congr 2
    · exact List.map_congr_left fun c hc => by unfold mixD; congr 1; exact List.map_congr_left fun j _ => by rw [acc_lo (List.mem_range.mp hc)]
    · exact List.map_congr_left fun c hc => by unfold mixD; congr 1; exact List.map_congr_left fun j _ => by rw [acc_hi]
  refine Ex.cons (Ex1.assign (d := .lst ((List.range (2 ^ (k + 1))).map (sumD xs (k + 1)))) (Ev.conv (Ev.binop (.name rfl)
    (Ev.compL (List.range (2 ^ k)) (sumD xs k) (fun c => .lst ((List.range 3).map fun j => .int ((accN (PF xs j) k c + PF xs j k : Nat) : Int))) (by decide +kernel) rfl (.name rfl) (.lst _) (by rw [List.length_range]; omega) (fun c hc => ?_)) (.add_lst (by simp only [List.length_map, List.length_range]; omega))) ?_) rfl) ?_
  · refine Ev.compN (n := 3) _ (by decide +kernel) rfl (Ev.call (by decide +kernel) B.range (.type _) (.cons .int .nil) .range) (by decide) (fun j hj => ?_)
    exact Ev.conv (Ev.binop (Ev.item (.name rfl) (.name rfl) (by omega) (by omega) (by rw [Int.toNat_natCast]; exact get_map hj)) (Ev.item (Ev.item (.name rfl) (.name rfl) (by omega) (by omega) (by rw [Int.toNat_natCast]; exact get_map hk)) (.name rfl) (by omega) (by omega) (by rw [Int.toNat_natCast]; exact plain_get _ hj)) .add_int) rfl
  · rw [two_halves]
    congr 2
    · exact List.map_congr_left fun c hc => by unfold sumD; congr 1; exact List.map_congr_left fun j _ => by rw [acc_lo (List.mem_range.mp hc)]
    · exact List.map_congr_left fun c hc => by unfold sumD; congr 1; exact List.map_congr_left fun j _ => by rw [acc_hi]
  exact Ex.weak Ex.nil (.upd rfl (.upd rfl (.upd rfl (.upd rfl (.upd rfl (.upd rfl (.upd rfl (.upd rfl (.upd rfl .ini)))))))))

theorem law_b (B : LB C) (ns : List Int) (n : Nat) (hn : n ≤ 5) (xs : Nat → Nat) (hx : ∀ k, xs k < 576) {o : Out} (h : Ex C (fnScope 13) (loopSt ns n xs n) ((fnBody 13).drop 12) o) : Ex C (fnScope 13) (lawSt7 ns n xs) ((fnBody 13).drop 7) o := by
  conv => arg 4; whnf
  refine Ex.cons (Ex1.assign .int rfl) ?_
  refine Ex.cons (Ex1.assign (Ev.list (.cons .int .nil)) rfl) ?_
  refine Ex.cons (Ex1.assign (Ev.list (.cons (Ev.list (.cons .flt (.cons .flt (.cons .flt .nil)))) .nil)) rfl) ?_
  refine Ex.cons (Ex1.assign (Ev.list (.cons (Ev.list (.cons .int (.cons .int (.cons .int .nil)))) .nil)) rfl) ?_
  have e0 : fx 0 = 0 := by decide +kernel
  refine Ex.less (σ := loopSt ns n xs 0) (.upd rfl (.upd ?_ (.upd rfl (.upd rfl (.upd rfl (.upd rfl (.upd rfl (.upd rfl (.upd rfl .ini))))))))) ?_
  · show some (D.lst [.lst [.flt 0, .flt 0, .flt 0]]) = some (D.lst [.lst [.flt (fx 0), .flt (fx 0), .flt (fx 0)]])
    rw [e0]
  refine Ex.cons (Ex1.forN (loopSt ns n xs) n (Ev.call (by decide +kernel) B.range (.type _) (.cons (.name rfl) .nil) .range) (.rng n (by omega)) (by simp; omega) rfl (by simp) (fun k dd hk hd => ?_) (.all (by simp) Ex.nil)) h
  rw [get_map hk] at hd
  cases hd
  exact ⟨_, Asg.name rfl, loop_b B ns n hn xs hx k hk⟩
end
end Mine
namespace Mine

noncomputable def midN (xs : Nat → Nat) (n c : Nat) : Nat := max (max (accN (PF xs 0) n c) (accN (PF xs 1) n c)) (accN (PF xs 2) n c) + min (min (accN (PF xs 0) n c) (accN (PF xs 1) n c)) (accN (PF xs 2) n c)
noncomputable def litN (xs : Nat → Nat) (n c : Nat) : Nat := 30 * accN (PF xs 0) n c + 59 * accN (PF xs 1) n c + 11 * accN (PF xs 2) n c
noncomputable def midL (xs : Nat → Nat) (n i : Nat) : List D := (List.range i).map fun c => .int (midN xs n c : Int)
noncomputable def litL (xs : Nat → Nat) (n i : Nat) : List D := (List.range i).map fun c => .int (litN xs n c : Int)
/-- what stays of the state from here on -/
noncomputable def coreSt (ns : List Int) (n : Nat) (xs : Nat → Nat) : St :=
  upd (upd (upd (upd (upd (upd (upd ini "script" (.scr ns)) "count" (.int n)) "nights" (.lst ((List.range n).map fun k => .tup [.int (onN (xs k)), .int (offN (xs k))]))) "plain" (.lst ((List.range n).map fun k => plainD (xs k)))) "whole" (.int (wh (OnF xs) (OffF xs) n))) "often" (oftD xs n)) "size" (.int (((2 ^ n : Nat) : Int) - 1))
noncomputable def loop2St (ns : List Int) (n : Nat) (xs : Nat → Nat) (i : Nat) : St :=
  upd (upd (upd (upd (coreSt ns n xs) "mixes" (.lst ((List.range (2 ^ n)).map (mixD xs n)))) "sums" (.lst ((List.range (2 ^ n)).map (sumD xs n)))) "middles" (.own (midL xs n i))) "lights" (.own (litL xs n i))
noncomputable def lawSt16 (ns : List Int) (n : Nat) (xs : Nat → Nat) : St := upd (upd (coreSt ns n xs) "middles" (.lst (midL xs n (2 ^ n)))) "lights" (.lst (litL xs n (2 ^ n)))

section
variable {C : Cx}
theorem loop_c (B : LB C) (ns : List Int) (n : Nat) (hn : n ≤ 5) (xs : Nat → Nat) (hx : ∀ k, xs k < 576) (c : Nat) (hc : c < 2 ^ n) :
    Ex C (fnScope 13) (upd (loop2St ns n xs c) "c" (.int (c : Int))) (forBody (stm 15)) (.next (loop2St ns n xs (c + 1))) := by
  conv => arg 4; whnf
  have hk : C.k ≤ 50 := Nat.le_trans B.k (by decide)
  have hp : 2 ^ n ≤ 32 := Nat.le_trans (Nat.pow_le_pow_right (by decide) hn) (by decide)
  have bnd : ∀ j, j < 3 → accN (PF xs j) n c ≤ 120 := fun j hj => Nat.le_trans (acc_le (PF_le hx j hj) n c) (by omega)
  have b0 := bnd 0 (by decide)
  have b1 := bnd 1 (by decide)
  have b2 := bnd 2 (by decide)
  obtain ⟨h1, h2, h3, h4⟩ := hls_facts b0 b1 b2
  obtain ⟨m, e, hd, ht⟩ := yiq_int b0 b1 b2
  obtain ⟨ha, hs, hcal⟩ := hls_cal B.hls hk B.max B.min _ _ _ h1 h2 h3
  refine Ex.cons (Ex1.unpack (ns := [("red", _), ("green", _), ("blue", _)]) (d := .lst [.flt (fx (2 * accN (PF xs 0) n c)), .flt (fx (2 * accN (PF xs 1) n c)), .flt (fx (2 * accN (PF xs 2) n c))]) (Ev.conv (Ev.compL (List.range 3) (fun j => .flt (fx (8 * accN (PF xs j) n c))) (fun j => .flt (fx (2 * accN (PF xs j) n c))) (by decide +kernel) rfl
    (Ev.item (.name rfl) (.name rfl) (by omega) (by omega) (by rw [Int.toNat_natCast]; exact get_map hc)) (.lst _) (by decide) (fun j hj => ?_)) rfl) (.lst _) (by decide +kernel) rfl (Nat.le_of_ble_eq_true rfl)) ?_
  · have := bnd j (List.mem_range.mp hj)
    exact Ev.conv (Ev.binop (.name rfl) .int (.div_fi (by decide +kernel) (by decide +kernel))) (by rw [fx_four _ (by omega)])
  have sum3 : ∀ p1 p2 p3, Ev C (fnScope 13) (updAll (upd (loop2St ns n xs c) "c" (.int (c : Int))) [("red", ⟨0, 0, 0, 0⟩), ("green", ⟨0, 0, 0, 0⟩), ("blue", ⟨0, 0, 0, 0⟩)] [.flt (fx (2 * accN (PF xs 0) n c)), .flt (fx (2 * accN (PF xs 1) n c)), .flt (fx (2 * accN (PF xs 2) n c))]) (.Subscript (.Name "sums" p1) (.Name "c" p2) p3) (.lst [.int ((accN (PF xs 0) n c : Nat) : Int), .int ((accN (PF xs 1) n c : Nat) : Int), .int ((accN (PF xs 2) n c : Nat) : Int)]) := fun _ _ _ =>
    Ev.item (.name rfl) (.name rfl) (by omega) (by omega) (by rw [Int.toNat_natCast, get_map hc]; rfl)
  refine Ex.cons (Ex1.assign (d := .int (midN xs n c : Int)) (Ev.conv (Ev.binop (Ev.call (by decide +kernel) B.max (.builtin _) (.cons (sum3 _ _ _) .nil) .maxL3) (Ev.call (by decide +kernel) B.min (.builtin _) (.cons (sum3 _ _ _) .nil) .minL3) .add_int) (by unfold midN; congr 1; omega)) rfl) ?_
  refine Ex.cons (Ex1.iff (c := false) (Tst.conv (Tst.cmp (Ev.binop (Ev.itemTup (Ev.call (by decide +kernel) B.hls.g B.hls.callee (.cons (.name rfl) (.cons (.name rfl) (.cons (.name rfl) .nil))) hcal) .int (by decide) (by decide) rfl) .int (.mul_fi (by decide))) (.name rfl) .ne_fi) (by rw [show ((midN xs n c : Nat) : Int) = _ from rfl]; unfold midN; rw [h4]; rfl)) (fun q => by cases q) fun _ => Ex.nil) ?_
  refine Ex.cons (Ex1.append rfl (.name rfl) (by unfold midL; rw [List.length_map, List.length_range]; omega)) ?_
  refine Ex.cons (Ex1.append rfl (Ev.call (by decide +kernel) B.int (.type _) (.cons (Ev.binop (Ev.binop (Ev.itemTup (Ev.call (by decide +kernel) B.yiq.g B.yiq.callee (.cons (.name rfl) (.cons (.name rfl) (.cons (.name rfl) .nil))) (yiq_cal B.yiq hk _ _ _)) .int (by decide) (by decide) rfl) .int (.mul_fi (by decide))) .flt .add_flt) .nil) ((Cal.int_flt hd).conv (d' := .int (litN xs n c : Int)) (by rw [ht]; rfl))) (by unfold litL; rw [List.length_map, List.length_range]; omega)) ?_
  refine Ex.weak Ex.nil (.upd ?_ (.upd ?_ (.upd rfl (.upd rfl (.upd rfl (.upd rfl (.upd rfl (.upd rfl (.upd rfl (.upd rfl (.upd rfl .ini)))))))))))
  · show some (D.own _) = some (D.own _)
    unfold litL; rw [List.range_succ, List.map_append]; rfl
  · show some (D.own _) = some (D.own _)
    unfold midL; rw [List.range_succ, List.map_append]; rfl

theorem law_c (B : LB C) (ns : List Int) (n : Nat) (hn : n ≤ 5) (xs : Nat → Nat) (hx : ∀ k, xs k < 576) {o : Out} (h : Ex C (fnScope 13) (lawSt16 ns n xs) ((fnBody 13).drop 16) o) : Ex C (fnScope 13) (loopSt ns n xs n) ((fnBody 13).drop 12) o := by
  conv => arg 4; whnf
  have hp : 2 ^ n ≤ 32 := Nat.le_trans (Nat.pow_le_pow_right (by decide) hn) (by decide)
  refine Ex.cons (Ex1.assign (d := .int (((2 ^ n : Nat) : Int) - 1)) (Ev.conv (Ev.binop (Ev.binop .int (.name rfl) (.pow_int (by omega) (by omega) (by decide))) .int .sub_int) (by rw [Int.toNat_natCast]; simp)) rfl) ?_
  refine Ex.cons (Ex1.own rfl) ?_
  refine Ex.cons (Ex1.own rfl) ?_
  refine Ex.less (σ := loop2St ns n xs 0) (.upd rfl (.upd rfl (.upd rfl (.upd rfl (.upd rfl (.upd rfl (.upd rfl (.upd rfl (.upd rfl (.upd rfl (.upd rfl .ini))))))))))) ?_
  refine Ex.cons (Ex1.forN (loop2St ns n xs) (2 ^ n) (Ev.conv (d' := .rng ((2 ^ n : Nat) : Int)) (Ev.call (by decide +kernel) B.range (.type _) (.cons (Ev.binop (.name rfl) .int .add_int) .nil) .range) (by congr 1; omega)) (.rng (2 ^ n) (by omega)) (by simp; omega) rfl (by simp) (fun k dd hk hd => ?_) (.all (by simp) Ex.nil)) ?_
  · rw [get_map hk] at hd
    cases hd
    exact ⟨_, Asg.name rfl, loop_c B ns n hn xs hx k hk⟩
  refine Ex.freeze (x := "middles") rfl ?_
  refine Ex.freeze (x := "lights") rfl ?_
  refine Ex.less (σ := lawSt16 ns n xs) (.upd rfl (.upd rfl (.upd rfl (.upd rfl (.upd rfl (.upd rfl (.upd rfl (.upd rfl (.upd rfl .ini))))))))) ?_
  exact h
end
end Mine
namespace Mine

noncomputable def spN (ns : List Int) : Nat := ((1819 + (pickNums ns none (some 60) none).sum).fmod 1000000).toNat
noncomputable def askN (n sp k : Nat) : Nat := (1 + ((sp : Int).fdiv ((((2 ^ n : Nat) : Int) - 1) ^ k)).fmod (((2 ^ n : Nat) : Int) - 1)).toNat
noncomputable def needN (n sp : Nat) : Nat → Nat
  | 0 => 0
  | k + 1 => askN n sp k
noncomputable def somN (n sp c : Nat) : Int := max (max (mark (askN n sp 0) n c) (mark (askN n sp 1) n c)) (mark (askN n sp 2) n c)
noncomputable def othN (n sp : Nat) : Nat → Nat → Int
  | 0, c => somN n sp c
  | k + 1, c => mark (askN n sp ((k + 1) % 3)) n c
noncomputable def lstN (n : Nat) (f : Nat → Int) : D := .lst ((List.range (2 ^ n)).map fun c => .int (f c))
noncomputable def winD (n sp i : Nat) : D := .tup [.int (needN n sp i : Int), lstN n (mark (needN n sp i) n), lstN n (othN n sp i)]
noncomputable def lawSt23 (ns : List Int) (n : Nat) (xs : Nat → Nat) (sp : Nat) : St := upd (lawSt16 ns n xs) "windows" (.lst ((List.range 4).map (winD n sp)))

theorem ask_is {n sp k : Nat} (hn : n = 4 ∨ n = 5) : (askN n sp k : Int) = 1 + ((sp : Int).fdiv ((((2 ^ n : Nat) : Int) - 1) ^ k)).fmod (((2 ^ n : Nat) : Int) - 1) ∧ 0 < askN n sp k ∧ askN n sp k < 2 ^ n := by
  have hb : 0 < (((2 ^ n : Nat) : Int) - 1) ∧ (((2 ^ n : Nat) : Int) - 1).toNat + 1 = 2 ^ n := by rcases hn with rfl | rfl <;> decide
  have h1 := Int.fmod_nonneg_of_pos ((sp : Int).fdiv ((((2 ^ n : Nat) : Int) - 1) ^ k)) hb.1
  have h2 := Int.fmod_lt_of_pos ((sp : Int).fdiv ((((2 ^ n : Nat) : Int) - 1) ^ k)) hb.1
  unfold askN
  omega
theorem sub_land {n a c : Nat} (hn : n = 4 ∨ n = 5) (ha : a < 2 ^ n) (hc : c < 2 ^ n) : sub a n c = (Nat.land a c == a) := by
  rcases hn with rfl | rfl
  · exact sub_tab4 a ha c hc
  · exact sub_tab5 a ha c hc
theorem sub_zero : ∀ k c, sub 0 k c = true
  | 0, _ => rfl
  | k + 1, c => by
    show (if _ then _ else _) = true
    rw [sub_zero k, sub_zero k]; simp
theorem join_w : ∀ a < 32, JoinOk dots (nm a 5) = true ∧ (Txt.join dots (nm a 5)).length ≤ 100 ∧ (dots ++ Txt.join dots (nm a 5)).length ≤ 100 := by decide +kernel

section
variable {C : Cx}
set_option maxHeartbeats 2000000 in
theorem law_d (B : LB C) (ns : List Int) (hns : ns.length ≤ 100) (n : Nat) (hn : n = 4 ∨ n = 5) (xs : Nat → Nat) {o : Out} (h : Ex C (fnScope 13) (lawSt23 ns n xs (spN ns)) ((fnBody 13).drop 23) o) : Ex C (fnScope 13) (lawSt16 ns n xs) ((fnBody 13).drop 16) o := by
  conv => arg 4; whnf
  have hk : C.k ≤ 50 := Nat.le_trans B.k (by decide)
  have sl : (2 : Nat) ^ 24 = sizeLine := rfl
  have hp : 2 ^ n ≤ 32 ∧ 16 ≤ 2 ^ n := by rcases hn with rfl | rfl <;> decide
  refine Ex.cons (Ex1.assignN (n := 2 ^ n) (fun c => .str (flagText c)) (by decide +kernel) rfl (Ev.conv (d' := .rng ((2 ^ n : Nat) : Int)) (Ev.call (by decide +kernel) B.range (.type _) (.cons (Ev.binop (.name rfl) .int .add_int) .nil) .range) (by congr 1; omega)) (by omega) (fun c hc => ?_) rfl) ?_
  · exact Ev.call (by decide +kernel) B.flags.g B.flags.callee (.cons (.name rfl) .nil) (flags_cal B.flags hk B.tab B.range B.hex c (by omega))
  refine Ex.cons (Ex1.assign (d := .int (spN ns : Int)) (Ev.conv (Ev.binop (Ev.binop .int (Ev.call (by decide +kernel) B.sum (.builtin _) (.cons (Ev.sliceTo (.name rfl) .int (by omega)) .nil) .sum) .add_int) .int (.mod_int (by decide))) (by rw [← (fmod_toNat (b := 1000000) (by decide)).1]; rfl)) rfl) ?_
  generalize spN ns = sp at *
  have pw : ∀ k : Nat, k < 3 → (((((2 ^ n : Nat) : Int) - 1) ^ k) ≠ 0 ∧ ((((2 ^ n : Nat) : Int) - 1) ^ k).natAbs < 1073741824) := fun k hk => by
    rcases hn with rfl | rfl
    · match k, hk with
      | 0, _ => decide
      | 1, _ => decide
      | 2, _ => decide
    · match k, hk with
      | 0, _ => decide
      | 1, _ => decide
      | 2, _ => decide
  refine Ex.cons (Ex1.assignN (n := 3) (fun k => .int (askN n sp k : Int)) (by decide +kernel) rfl (Ev.call (by decide +kernel) B.range (.type _) (.cons .int .nil) .range) (by decide) (fun k hk3 => ?_) rfl) ?_
  · obtain ⟨p1, p2⟩ := pw k hk3
    refine Ev.conv (Ev.binop .int (Ev.binop (Ev.binop (.name rfl) (Ev.conv (Ev.binop (.name rfl) (.name rfl) (.pow_int (by omega) (by omega) (by omega))) (by rw [Int.toNat_natCast])) (.floordiv_int p1 p2)) (.name rfl) (.mod_int (by omega))) .add_int) (by rw [(ask_is hn).1])
  have ask := fun k => ask_is (sp := sp) (k := k) hn
  refine Ex.cons (Ex1.assignL (List.range 3) (fun k => .int (askN n sp k : Int)) (fun k => .str (wantOf (askN n sp k))) (by decide +kernel) rfl (.name rfl) (.lst _) (by decide) (fun k hk3 => ?_) rfl) ?_
  · obtain ⟨_, a1, a2⟩ := ask k
    obtain ⟨j1, j2, j3⟩ := join_w _ (show askN n sp k < 32 by omega)
    have hd : dots.length ≤ 3 := by decide
    have ht := text_len _ (show askN n sp k < 32 by omega)
    refine Ev.binop (Ev.binop .str (Ev.join .str (.cons (Ev.conv (Ev.split (Ev.item (.name rfl) (.name rfl) (by omega) (by omega) (by rw [Int.toNat_natCast]; exact get_map a2)) (.cons .str .nil) (Cal.split (by decide +kernel) (by omega) (by have := parts_le (flagText (askN n sp k)) ", "; omega)) (fun _ => ⟨_, rfl⟩)) (by rw [split_a _ (by omega) a1])) .nil) (Cal.join j1) (fun _ => ⟨_, rfl⟩)) (.add_str (show dots.length + (Txt.join dots (nm (askN n sp k) 5)).length ≤ _ by omega))) .str (.add_str (show (dots ++ Txt.join dots (nm (askN n sp k) 5)).length + dots.length ≤ _ by omega))
  refine Ex.cons (Ex1.assignL (List.range 3) (fun k => .str (wantOf (askN n sp k))) (fun k => lstN n (mark (askN n sp k) n)) (by decide +kernel) rfl (.name rfl) (.lst _) (by decide) (fun k hk3 => ?_) rfl) ?_
  · obtain ⟨_, a1, a2⟩ := ask k
    refine Ev.compL (List.range (2 ^ n)) (fun c => .str (flagText c)) (fun c => .int (mark (askN n sp k) n c)) (by decide +kernel) rfl (.name rfl) (.lst _) (by rw [List.length_range]; omega) (fun c hc => ?_)
    have hc := List.mem_range.mp hc
    refine Ev.ifexp (c := sub (askN n sp k) n c) (Tst.conv (Tst.val (Ev.call (by decide +kernel) B.em.g B.em.callee (.cons (.name rfl) (.cons (.name rfl) .nil)) (em_cal B.em hk B.ell B.len _ c a1 (by omega) (by omega))) (.bool _)) (sub_land hn a2 hc).symm) (fun q => Ev.conv .int (by unfold mark; rw [q]; rfl)) (fun q => Ev.conv .int (by unfold mark; rw [q]; rfl))
  have mk : ∀ k, k < 3 → ((List.range 3).map fun k => lstN n (mark (askN n sp k) n))[k]? = some (lstN n (mark (askN n sp k) n)) := fun k hk => get_map hk
  refine Ex.cons (Ex1.assignN (n := 2 ^ n) (fun c => .int (somN n sp c)) (by decide +kernel) rfl (Ev.conv (d' := .rng ((2 ^ n : Nat) : Int)) (Ev.call (by decide +kernel) B.range (.type _) (.cons (Ev.binop (.name rfl) .int .add_int) .nil) .range) (by congr 1; omega)) (by omega) (fun c hc => ?_) rfl) ?_
  · exact Ev.call (by decide +kernel) B.max (.builtin _) (.cons (Ev.item (Ev.item (.name rfl) .int (by decide) (by decide) (mk 0 (by decide))) (.name rfl) (by omega) (by omega) (by rw [Int.toNat_natCast]; exact get_map hc))
      (.cons (Ev.item (Ev.item (.name rfl) .int (by decide) (by decide) (mk 1 (by decide))) (.name rfl) (by omega) (by omega) (by rw [Int.toNat_natCast]; exact get_map hc))
      (.cons (Ev.item (Ev.item (.name rfl) .int (by decide) (by decide) (mk 2 (by decide))) (.name rfl) (by omega) (by omega) (by rw [Int.toNat_natCast]; exact get_map hc)) .nil))) .max3
  refine Ex.cons (Ex1.assign (d := .lst ((List.range 4).map (winD n sp))) (Ev.conv (Ev.binop (Ev.list (.cons (Ev.tuple (.cons .int (.cons (Ev.binop (Ev.list (.cons .int .nil)) (Ev.binop (.name rfl) .int .add_int) (.mul_lst1 (by omega) (by omega))) (.cons (.name rfl) .nil)))) .nil))
    (Ev.compN (n := 3) (fun k => .tup [.int (askN n sp k : Int), lstN n (mark (askN n sp k) n), lstN n (mark (askN n sp ((k + 1) % 3)) n)]) (by decide +kernel) rfl (Ev.call (by decide +kernel) B.range (.type _) (.cons .int .nil) .range) (by decide) (fun k hk3 => ?_)) (.add_lst (by simp only [List.length_map, List.length_range, List.length_cons, List.length_nil]; omega))) ?_) rfl) ?_
  · refine Ev.tuple (.cons (Ev.item (.name rfl) (.name rfl) (by omega) (by omega) (by rw [Int.toNat_natCast]; exact get_map hk3)) (.cons (Ev.item (.name rfl) (.name rfl) (by omega) (by omega) (by rw [Int.toNat_natCast]; exact mk k hk3)) (.cons (Ev.item (.name rfl) (Ev.conv (d' := .int (((k + 1) % 3 : Nat) : Int)) (Ev.binop (Ev.binop (.name rfl) .int .add_int) .int (.mod_int (by decide))) (by rw [Int.fmod_eq_emod_of_nonneg _ (by decide)]; rfl)) (by omega) (by omega) (by rw [Int.toNat_natCast]; exact mk _ (Nat.mod_lt _ (by decide)))) .nil)))
  · have e1 : (((2 ^ n : Nat) : Int) - 1 + 1).toNat = 2 ^ n := by omega
    rw [e1]
    have e2 : List.replicate (2 ^ n) (D.int 1) = (List.range (2 ^ n)).map fun c => D.int (mark 0 n c) := by
      apply List.ext_getElem
      · simp
      · intro i h1 h2; simp [mark, sub_zero]
    rw [e2]; rfl
  refine Ex.less (σ := lawSt23 ns n xs sp) (.upd rfl (.upd rfl (.upd rfl (.upd rfl (.upd rfl (.upd rfl (.upd rfl (.upd rfl (.upd rfl (.upd rfl .ini)))))))))) ?_
  exact h
end
end Mine
namespace Mine

noncomputable def wtN (xs : Nat → Nat) (k : Nat) : Nat := 30 * PF xs 0 k + 59 * PF xs 1 k + 11 * PF xs 2 k
noncomputable def dlX (xs : Nat → Nat) (a n k : Nat) : Int := dl (OnF xs) (OffF xs) a n k
noncomputable def meanX (xs : Nat → Nat) (a n k : Nat) : Int := mean (OnF xs) (OffF xs) a (fun i => (wtN xs i : Int)) n k
noncomputable def inside (a n : Nat) : List Nat := (List.range (2 ^ n)).filter (sub a n)
noncomputable def oftX (xs : Nat → Nat) (n c : Nat) : Int := oft (OnF xs) (OffF xs) n c

/-- the state in a window's turn, ahead of the loop over the lamps -/
noncomputable def winSt (ns : List Int) (n : Nat) (xs : Nat → Nat) (sp a : Nat) (f : Nat → Int) : St :=
  upd (upd (upd (upd (lawSt23 ns n xs sp) "need" (.int (a : Int))) "other" (lstN n f)) "inside" (.lst ((inside a n).map fun (c : Nat) => .int (c : Int)))) "held" (.lst ((inside a n).map fun c => .int (oftX xs n c)))
noncomputable def inSt (ns : List Int) (n : Nat) (xs : Nat → Nat) (sp a : Nat) (f : Nat → Int) (k : Nat) : St :=
  upd (upd (winSt ns n xs sp a f) "due" (.int (dlX xs a n k))) "mean" (.int (meanX xs a n k))

theorem bit_is (a k : Nat) : (((a : Int).fdiv (2 ^ k)).fmod 2 == 1) = a.testBit k := by
  rw [Int.fmod_eq_emod_of_nonneg _ (by decide), Int.fdiv_eq_ediv_of_nonneg _ (Int.le_of_lt (Int.pow_pos (by decide))), Nat.testBit_eq_decide_div_mod_eq]
  have e : (a : Int) / 2 ^ k % 2 = ((a / 2 ^ k % 2 : Nat) : Int) := by simp
  rw [e]
  by_cases h : a / 2 ^ k % 2 = 1
  · rw [h]; rfl
  · simp only [h, decide_false, beq_eq_false_iff_ne]; omega

section
variable {C : Cx}
noncomputable def winBody : List Stmt := forBody (stm 23)

theorem loop_e (ns : List Int) (n : Nat) (hn : n ≤ 5) (xs : Nat → Nat) (hx : ∀ k, xs k < 576) (sp a : Nat) (f : Nat → Int) (k : Nat) (hk : k < n) :
    Ex C (fnScope 13) (upd (inSt ns n xs sp a f k) "k" (.int (k : Int))) (forBody ((winBody[4]?).getD (.Pass ⟨0, 0, 0, 0⟩))) (.next (inSt ns n xs sp a f (k + 1))) := by
  conv => arg 4; whnf
  obtain ⟨⟨n1, n2⟩, n3, n4⟩ := night_tab _ (hx k)
  have w0 := PF_le hx 0 (by decide) k
  have w1 := PF_le hx 1 (by decide) k
  have w2 := PF_le hx 2 (by decide) k
  have hw : wtN xs k ≤ 2400 := by unfold wtN; omega
  refine Ex.cons (Ex1.unpack (ns := [("on", _), ("off", _)]) (d := .tup [.int (onN (xs k)), .int (offN (xs k))]) (Ev.item (.name rfl) (.name rfl) (by omega) (by omega) (by rw [Int.toNat_natCast]; exact get_map hk)) (.tup _) (by decide +kernel) rfl (Nat.le_of_ble_eq_true rfl)) ?_
  have pl : ∀ (σ : St), σ "plain" = some (.lst ((List.range n).map fun k => plainD (xs k))) → σ "k" = some (.int (k : Int)) → ∀ (j : Nat), j < 3 → ∀ (p1 p2 p3 : Pos) (q : Nat) (p4 p5 : Pos), Ev C (fnScope 13) σ (.Subscript (.Subscript (.Name "plain" p1) (.Name "k" p2) p3) (.Constant (.int (j : Int)) q p4) p5) (.int (PF xs j k : Int)) := fun σ s1 s2 j hj _ _ _ _ _ _ =>
    Ev.item (Ev.item (.name s1) (.name s2) (by omega) (by omega) (by rw [Int.toNat_natCast]; exact get_map hk)) .int (by omega) (by omega) (by rw [Int.toNat_natCast]; exact plain_get _ hj)
  refine Ex.cons (Ex1.assign (d := .int (wtN xs k : Int)) (Ev.conv (Ev.binop (Ev.binop (Ev.binop .int (pl _ rfl rfl 0 (by decide) _ _ _ _ _ _) (.mul_int (.inl (by decide)))) (Ev.binop .int (pl _ rfl rfl 1 (by decide) _ _ _ _ _ _) (.mul_int (.inl (by decide)))) .add_int) (Ev.binop .int (pl _ rfl rfl 2 (by decide) _ _ _ _ _ _) (.mul_int (.inl (by decide)))) .add_int) (by unfold wtN; congr 1)) rfl) ?_
  refine Ex.cons (Ex1.iff (c := a.testBit k) (Tst.conv (Tst.cmp (Ev.binop (Ev.binop (.name rfl) (Ev.conv (d' := .int (2 ^ k)) (Ev.binop .int (.name rfl) (.pow_int (by omega) (by omega) (by decide))) (by rw [Int.toNat_natCast])) (.floordiv_int ?_ ?_)) .int (.mod_int (by decide))) .int .eq_int) (bit_is a k)) (fun hb => ?_) (fun hb => ?_)) Ex.nil
  · exact Int.ne_of_gt (Int.pow_pos (by decide))
  · have : ((2 : Int) ^ k).natAbs = 2 ^ k := by rw [Int.natAbs_pow]; rfl
    rw [this]
    exact Nat.lt_of_le_of_lt (Nat.pow_le_pow_right (by decide) (show k ≤ 5 by omega)) (by decide)
  · refine Ex.weak (Ex.cons (Ex1.assign (Ev.binop (Ev.binop (.name rfl) (Ev.binop (.name rfl) (.name rfl) .add_int) (.floordiv_int (by omega) (by omega))) (.name rfl) (.mul_int (.inr (by omega)))) rfl) (Ex.cons (Ex1.aug rfl (Ev.binop (.name rfl) (.name rfl) (.mul_int (.inl (by omega)))) .add_int rfl) Ex.nil))
      (.upd ?_ (.upd ?_ (.upd rfl (.upd rfl (.upd rfl (.upd rfl (.upd rfl (.upd rfl (.upd rfl (.upd rfl (.upd rfl (.upd rfl (.upd rfl (.upd rfl (.upd rfl (.upd rfl .ini))))))))))))))))
    · show some (D.int _) = some (D.int _)
      congr 2
      show _ = meanX xs a n k + mt (OnF xs) (OffF xs) a _ n k
      unfold mt; rw [hb]; rfl
    · show some (D.int _) = some (D.int _)
      congr 2
      show _ = (if a.testBit k then _ else _)
      rw [hb]; rfl
  · refine Ex.weak (Ex.cons (Ex1.aug rfl (Ev.binop (Ev.binop (.name rfl) (.name rfl) (.mul_int (.inl (by omega)))) (Ev.binop (.name rfl) (Ev.binop (.name rfl) (.name rfl) .add_int) (.floordiv_int (by omega) (by omega))) (.mul_int (.inl ?_))) .add_int rfl) Ex.nil)
      (.upd ?_ (.upd ?_ (.upd rfl (.upd rfl (.upd rfl (.upd rfl (.upd rfl (.upd rfl (.upd rfl (.upd rfl (.upd rfl (.upd rfl (.upd rfl (.upd rfl (.upd rfl (.upd rfl .ini))))))))))))))))
    · rw [Int.natAbs_mul]
      exact Nat.lt_of_le_of_lt (Nat.mul_le_mul (show ((wtN xs k : Nat) : Int).natAbs ≤ 2400 by omega) (show (onN (xs k)).natAbs ≤ 3 by omega)) (by decide)
    · show some (D.int _) = some (D.int _)
      congr 2
      show _ = meanX xs a n k + mt (OnF xs) (OffF xs) a _ n k
      unfold mt; rw [hb]; rfl
    · show some (D.int _) = some (D.int _)
      congr 2
      show _ = (if a.testBit k then _ else _)
      rw [hb]; rfl
end
end Mine
namespace Mine

-- bounds
theorem on_b {xs : Nat → Nat} (hx : ∀ k, xs k < 576) (k : Nat) : 1 ≤ OnF xs k ∧ OnF xs k ≤ 3 := (night_tab _ (hx k)).1
theorem off_b {xs : Nat → Nat} (hx : ∀ k, xs k < 576) (k : Nat) : 1 ≤ OffF xs k ∧ OffF xs k ≤ 3 := (night_tab _ (hx k)).2
theorem mul_b {x y a b : Int} (h1 : 0 ≤ x) (h2 : x ≤ a) (h3 : 0 ≤ y) (h4 : y ≤ b) : 0 ≤ x * y ∧ x * y ≤ a * b := ⟨Int.mul_nonneg h1 h3, Int.mul_le_mul h2 h4 h3 (by omega)⟩
theorem wh_b {xs : Nat → Nat} (hx : ∀ k, xs k < 576) : ∀ k, 0 ≤ wh (OnF xs) (OffF xs) k ∧ wh (OnF xs) (OffF xs) k ≤ 6 ^ k
  | 0 => by simp [wh]
  | k + 1 => by
    have h := wh_b hx k
    have a := on_b hx k
    have b := off_b hx k
    rw [Int.pow_succ]
    exact mul_b h.1 h.2 (by omega) (by omega)
theorem dpr_b {xs : Nat → Nat} (hx : ∀ k, xs k < 576) (a : Nat) : ∀ k, 0 ≤ dpr (OnF xs) (OffF xs) a k ∧ dpr (OnF xs) (OffF xs) a k ≤ 6 ^ k
  | 0 => by simp [dpr]
  | k + 1 => by
    have h := dpr_b hx a k
    have p := on_b hx k
    have q := off_b hx k
    rw [Int.pow_succ]
    refine mul_b h.1 h.2 ?_ ?_ <;> (split <;> omega)
theorem oft_b {xs : Nat → Nat} (hx : ∀ k, xs k < 576) : ∀ k c, 0 ≤ oft (OnF xs) (OffF xs) k c ∧ oft (OnF xs) (OffF xs) k c ≤ 3 ^ k
  | 0, c => by simp [oft]
  | k + 1, c => by
    have h1 := oft_b hx k c
    have h2 := oft_b hx k (c - 2 ^ k)
    have p := on_b hx k
    have q := off_b hx k
    rw [Int.pow_succ]
    show 0 ≤ (if c < 2 ^ k then _ else _) ∧ (if c < 2 ^ k then _ else _) ≤ _
    split
    · exact mul_b h1.1 h1.2 (by omega) (by omega)
    · exact mul_b h2.1 h2.2 (by omega) (by omega)
theorem pow6 {n : Nat} (hn : n ≤ 5) : (6 : Int) ^ n ≤ 7776 ∧ (3 : Int) ^ n ≤ 243 := by
  match n, hn with
  | 0, _ => decide
  | 1, _ => decide
  | 2, _ => decide
  | 3, _ => decide
  | 4, _ => decide
  | 5, _ => decide

-- sums by place
theorem sum_idx (L : List Nat) (G : Nat → Int) (F : Nat → Int) (h : ∀ k (hk : k < L.length), G k = F L[k]) : ((List.range L.length).map G).sum = (L.map F).sum := by
  congr 1
  apply List.ext_getElem
  · simp
  · intro i h1 h2
    simp at h1
    simp [h i h1]
theorem at0_map (L : List Nat) (f : Nat → Int) (k : Nat) (hk : k < L.length) : at0 (L.map f) k = f L[k] := by
  unfold at0; simp [List.getD_eq_getElem?_getD, hk]
theorem sum2 (L : List Nat) (o f : Nat → Int) : sum1 (L.map o).length (fun k => at0 (L.map o) k * at0 (L.map f) k) = (L.map fun c => o c * f c).sum := by
  unfold sum1
  rw [List.length_map]
  exact sum_idx L _ _ fun k hk => by rw [at0_map _ _ _ hk, at0_map _ _ _ hk]
theorem sum3 (L : List Nat) (o f g : Nat → Int) : sum1 (L.map o).length (fun k => at0 (L.map o) k * at0 (L.map f) k * at0 (L.map g) k) = (L.map fun c => o c * (f c * g c)).sum := by
  unfold sum1
  rw [List.length_map]
  exact sum_idx L _ _ fun k hk => by rw [at0_map _ _ _ hk, at0_map _ _ _ hk, at0_map _ _ _ hk, Int.mul_assoc]
theorem T_is (xs : Nat → Nat) (a n : Nat) (f : Nat → Int) : T (OnF xs) (OffF xs) a n f = ((inside a n).map fun c => oftX xs n c * f c).sum := rfl
theorem T_is1 (xs : Nat → Nat) (a n : Nat) : T (OnF xs) (OffF xs) a n (fun _ => 1) = ((inside a n).map (oftX xs n)).sum := by
  rw [T_is]; congr 1; exact List.map_congr_left fun c _ => Int.mul_one _

theorem fr_true {xs : Nat → Nat} (hx : ∀ k, xs k < 576) (a n : Nat) {f g : Nat → Int} (hf : Inc n f) (hg : Inc n g) : friends ((inside a n).map (oftX xs n)) ((inside a n).map f) ((inside a n).map g) = true := by
  unfold friends
  rw [sum2, sum2, sum3, ← T_is, ← T_is, ← T_is, ← T_is1]
  exact decide_eq_true (harris _ _ a (fun k => by have := on_b hx k; omega) (fun k => by have := off_b hx k; omega) n f g hf hg)

theorem lit_acc (xs : Nat → Nat) : ∀ n c, litN xs n c = accN (wtN xs) n c
  | 0, c => rfl
  | n + 1, c => by
    unfold litN
    rcases Nat.lt_or_ge c (2 ^ n) with q | q
    · rw [acc_lo q, acc_lo q, acc_lo q, acc_lo q, ← lit_acc xs n c]; rfl
    · have e : ∀ w, accN w (n + 1) c = accN w n (c - 2 ^ n) + w n := fun w => by
        have e := acc_hi (w := w) (k := n) (c := c - 2 ^ n)
        rwa [Nat.add_sub_cancel' q] at e
      rw [e, e, e, e, ← lit_acc xs n (c - 2 ^ n)]
      unfold litN wtN; omega
theorem inc_lit (xs : Nat → Nat) (n : Nat) : Inc n (fun c => (litN xs n c : Int)) := (Inc.acc (wtN xs) n).congr fun c _ => by rw [lit_acc]
theorem inc_mid (xs : Nat → Nat) (n : Nat) : Inc n (fun c => (midN xs n c : Int)) :=
  (Inc.map3 (fun x y z => max (max x y) z + min (min x y) z) (fun _ _ _ _ _ _ _ _ _ => by omega) (Inc.acc (PF xs 0) n) (Inc.acc (PF xs 1) n) (Inc.acc (PF xs 2) n)).congr fun c _ => by unfold midN; omega
theorem inc_oth (n sp : Nat) : ∀ i, Inc n (othN n sp i)
  | 0 => Inc.map3 (fun x y z => max (max x y) z) (fun _ _ _ _ _ _ _ _ _ => by omega) (Inc.mark _ n) (Inc.mark _ n) (Inc.mark _ n)
  | k + 1 => Inc.mark _ n
theorem mark_b (a n c : Nat) : 0 ≤ mark a n c ∧ mark a n c ≤ 1 := by unfold mark; split <;> decide
theorem oth_b (n sp c : Nat) : ∀ i, (othN n sp i c).natAbs ≤ 100000
  | 0 => by
    have a := mark_b (askN n sp 0) n c
    have b := mark_b (askN n sp 1) n c
    have d := mark_b (askN n sp 2) n c
    show (max (max _ _) _ : Int).natAbs ≤ _
    omega
  | k + 1 => by have a := mark_b (askN n sp ((k + 1) % 3)) n c; show (mark _ n c).natAbs ≤ _; omega
theorem small_map {L : List Nat} {f : Nat → Int} (h : ∀ c, (f c).natAbs ≤ 100000) : Small 100000 (L.map f) := fun x hx => by
  obtain ⟨c, _, rfl⟩ := List.mem_map.mp hx; exact h c

section
variable {C : Cx}
set_option maxHeartbeats 2000000 in
theorem win_f (B : LB C) (ns : List Int) (n : Nat) (hn : n = 4 ∨ n = 5) (xs : Nat → Nat) (hx : ∀ k, xs k < 576) (sp i : Nat) (hi : i < 4) :
    Ex C (fnScope 13) (upd (upd (upd (lawSt23 ns n xs sp) "need" (.int (needN n sp i : Int))) "window" (lstN n (mark (needN n sp i) n))) "other" (lstN n (othN n sp i))) winBody (.next (lawSt23 ns n xs sp)) := by
  conv => arg 4; whnf
  have hk : C.k ≤ 50 := Nat.le_trans B.k (by decide)
  have hn5 : n ≤ 5 := by omega
  have hp : 2 ^ n ≤ 32 := by rcases hn with rfl | rfl <;> decide
  have hsz : (inside (needN n sp i) n).length ≤ 32 := by
    have := List.length_filter_le (sub (needN n sp i) n) (List.range (2 ^ n))
    rw [List.length_range] at this
    unfold inside; omega
  have inb : ∀ c ∈ inside (needN n sp i) n, c < 2 ^ n := fun c hc => List.mem_range.mp (List.mem_filter.mp hc).1
  obtain ⟨p6, p3⟩ := pow6 hn5
  have whb := wh_b hx n
  have dpb := dpr_b hx (needN n sp i) n
  refine Ex.cons (Ex1.assignNIf (n := 2 ^ n) (fun c => .int (c : Int)) (sub (needN n sp i) n) (by decide +kernel) rfl (Ev.conv (d' := .rng ((2 ^ n : Nat) : Int)) (Ev.call (by decide +kernel) B.range (.type _) (.cons (Ev.binop (.name rfl) .int .add_int) .nil) .range) (by congr 1; omega)) (by omega) (fun c hc => ?_) (fun c hc _ => .name rfl) rfl) ?_
  · exact Tst.conv (Tst.cmp (Ev.item (.name rfl) (.name rfl) (by omega) (by omega) (by rw [Int.toNat_natCast]; exact get_map hc)) .int .eq_int) (by unfold mark; cases sub (needN n sp i) n c <;> rfl)
  refine Ex.cons (Ex1.assignL (inside (needN n sp i) n) (fun (c : Nat) => .int (c : Int)) (fun c => .int (oftX xs n c)) (by decide +kernel) rfl (.name rfl) (.lst _) (by omega) (fun c hc => Ev.item (.name rfl) (.name rfl) (by omega) (by have := inb c hc; omega) (by rw [Int.toNat_natCast]; exact get_map (inb c hc))) rfl) ?_
  refine Ex.cons (Ex1.assign (.name rfl) rfl) ?_
  refine Ex.cons (Ex1.assign .int rfl) ?_
  refine Ex.less (σ := inSt ns n xs sp (needN n sp i) (othN n sp i) 0) (.upd rfl (.upd rfl (.upd rfl (.upd rfl (.upd rfl (.upd rfl (.upd rfl (.upd rfl (.upd rfl (.upd rfl (.upd rfl (.upd rfl (.upd rfl (.upd rfl (.upd rfl (.upd rfl .ini)))))))))))))))) ?_
  refine Ex.cons (Ex1.forN (inSt ns n xs sp (needN n sp i) (othN n sp i)) n (Ev.call (by decide +kernel) B.range (.type _) (.cons (.name rfl) .nil) .range) (.rng n (by omega)) (by simp; omega) rfl (by simp) (fun k dd hk' hd => ?_) (.all (by simp) Ex.nil)) ?_
  · rw [get_map hk'] at hd
    cases hd
    exact ⟨_, Asg.name rfl, loop_e ns n hn5 xs hx sp (needN n sp i) (othN n sp i) k hk'⟩
  have hpos : ∀ k, 0 < OnF xs k + OffF xs k := fun k => by have a := on_b hx k; have b := off_b hx k; omega
  have edue : dlX xs (needN n sp i) n n = dpr (OnF xs) (OffF xs) (needN n sp i) n := dl_end _ _ _ hpos n
  generalize ha : needN n sp i = a at *
  refine Ex.cons (Ex1.assignL (inside a n) (fun (c : Nat) => .int (c : Int)) (fun c => .int (litN xs n c : Int)) (by decide +kernel) rfl (.name rfl) (.lst _) (by omega) (fun c hc => Ev.item (.name rfl) (.name rfl) (by omega) (by have := inb c hc; omega) (by rw [Int.toNat_natCast]; exact get_map (inb c hc))) rfl) ?_
  have toI : ∀ (f : Nat → Int), D.lst ((inside a n).map fun c => .int (f c)) = .lst (((inside a n).map f).map .int) := fun f => by rw [List.map_map]; rfl
  have e1 : ((inside a n).map (oftX xs n)).sum = dlX xs a n n := by rw [edue, ← T_one, T_is1]
  have e2 : wh (OnF xs) (OffF xs) n * ((inside a n).map fun c => oftX xs n c * (litN xs n c : Int)).sum = dlX xs a n n * meanX xs a n n := by
    rw [edue, ← T_is xs a n (fun c => (litN xs n c : Int)), T_congr _ _ _ (g := fun c => (accN (wtN xs) n c : Int)) (fun c _ => by rw [lit_acc])]
    exact mean_law _ _ a hpos (wtN xs) n
  refine Ex.cons (Ex1.iff (c := false) (Tst.or_none fun e he => ?_) (fun q => by cases q) fun _ => Ex.nil) ?_
  · rcases List.mem_cons.mp he with rfl | he
    · exact Tst.conv (Tst.cmp (Ev.call (by decide +kernel) B.sum (.builtin _) (.cons (Ev.conv (.name rfl) (toI _)) .nil) .sum) (.name rfl) .ne_int) (by rw [e1]; simp)
    · cases List.mem_singleton.mp he
      refine Tst.conv (Tst.cmp (Ev.binop (.name rfl) (Ev.call (by decide +kernel) B.sum (.builtin _) (.cons (Ev.conv (Ev.compN (n := (inside a n).length) (fun k => .int (at0 ((inside a n).map (oftX xs n)) k * at0 ((inside a n).map fun c => (litN xs n c : Int)) k)) (by decide +kernel) rfl (Ev.call (by decide +kernel) B.range (.type _) (.cons (Ev.call (by decide +kernel) B.len (.builtin _) (.cons (.name rfl) .nil) ((Cal.len_lst (by rw [List.length_map]; omega)).conv (by rw [List.length_map]))) .nil) .range) (by omega) (fun k hk' => ?_)) (d' := .lst (((List.range (inside a n).length).map (fun k => at0 ((inside a n).map (oftX xs n)) k * at0 ((inside a n).map fun c => (litN xs n c : Int)) k)).map .int)) (by rw [List.map_map]; rfl)) .nil) .sum) (.mul_int (.inl (by omega)))) (Ev.binop (.name rfl) (.name rfl) (.mul_int (.inl (by rw [edue]; omega)))) .ne_int) ?_
      · refine Ev.binop (Ev.item (Ev.conv (.name rfl) (toI _)) (.name rfl) (by omega) (by omega) (by rw [Int.toNat_natCast]; exact at0_get (by rw [List.length_map]; exact hk'))) (Ev.item (Ev.conv (.name rfl) (toI _)) (.name rfl) (by omega) (by omega) (by rw [Int.toNat_natCast]; exact at0_get (by rw [List.length_map]; exact hk'))) (.mul_int (.inl ?_))
        rw [at0_map _ _ _ hk']
        have := oft_b hx n (inside a n)[k]
        show (oft _ _ n _).natAbs < _
        omega
      · have es := sum2 (inside a n) (oftX xs n) (fun c => (litN xs n c : Int))
        unfold sum1 at es
        rw [List.length_map] at es
        rw [es, e2]; simp
  refine Ex.cons (Ex1.assignL (inside a n) (fun (c : Nat) => .int (c : Int)) (fun c => .int (midN xs n c : Int)) (by decide +kernel) rfl (.name rfl) (.lst _) (by omega) (fun c hc => Ev.item (.name rfl) (.name rfl) (by omega) (by have := inb c hc; omega) (by rw [Int.toNat_natCast]; exact get_map (inb c hc))) rfl) ?_
  refine Ex.cons (Ex1.assignL (inside a n) (fun (c : Nat) => .int (c : Int)) (fun c => .int (othN n sp i c)) (by decide +kernel) rfl (.name rfl) (.lst _) (by omega) (fun c hc => Ev.item (.name rfl) (.name rfl) (by omega) (by have := inb c hc; omega) (by rw [Int.toNat_natCast]; exact get_map (inb c hc))) rfl) ?_
  have so : Small 100000 ((inside a n).map (oftX xs n)) := small_map fun c => by have := oft_b hx n c; show (oft _ _ n c).natAbs ≤ _; omega
  have accb : ∀ j, j < 3 → ∀ c, accN (PF xs j) n c ≤ 120 := fun j hj c => Nat.le_trans (acc_le (PF_le hx j hj) n c) (by omega)
  have sm : Small 100000 ((inside a n).map fun c => (midN xs n c : Int)) := small_map fun c => by
    have a0 := accb 0 (by decide) c; have a1 := accb 1 (by decide) c; have a2 := accb 2 (by decide) c
    unfold midN; omega
  have sli : Small 100000 ((inside a n).map fun c => (litN xs n c : Int)) := small_map fun c => by
    have a0 := accb 0 (by decide) c; have a1 := accb 1 (by decide) c; have a2 := accb 2 (by decide) c
    unfold litN; omega
  have sot : Small 100000 ((inside a n).map (othN n sp i)) := small_map fun c => oth_b n sp c i
  have fr : ∀ (f g : Nat → Int), Inc n f → Inc n g → Small 100000 ((inside a n).map f) → Small 100000 ((inside a n).map g) → Cal C (.ref B.fr) [.lst (((inside a n).map (oftX xs n)).map .int), .lst (((inside a n).map f).map .int), .lst (((inside a n).map g).map .int)] (.bool true) := fun f g hf hg sf sg =>
    (friends_cal B.friends hk B.len B.sum B.range (by rw [List.length_map, List.length_map]) (by rw [List.length_map, List.length_map]) (by rw [List.length_map]; omega) so sf sg).conv (by rw [fr_true hx a n hf hg])
  refine Ex.cons (Ex1.iff (c := false) (Tst.conv (Tst.not (Tst.and_all fun e he => ?_)) rfl) (fun q => by cases q) fun _ => Ex.nil) ?_
  · rcases List.mem_cons.mp he with rfl | he
    · exact Tst.val (Ev.call (by decide +kernel) B.friends.g B.friends.callee (.cons (Ev.conv (.name rfl) (toI _)) (.cons (Ev.conv (.name rfl) (toI _)) (.cons (Ev.conv (.name rfl) (toI _)) .nil))) (fr _ _ (inc_mid xs n) (inc_lit xs n) sm sli)) (.bool _)
    · rcases List.mem_cons.mp he with rfl | he
      · exact Tst.val (Ev.call (by decide +kernel) B.friends.g B.friends.callee (.cons (Ev.conv (.name rfl) (toI _)) (.cons (Ev.conv (.name rfl) (toI _)) (.cons (Ev.conv (.name rfl) (toI _)) .nil))) (fr _ _ (inc_mid xs n) (inc_oth n sp i) sm sot)) (.bool _)
      · cases List.mem_singleton.mp he
        exact Tst.val (Ev.call (by decide +kernel) B.friends.g B.friends.callee (.cons (Ev.conv (.name rfl) (toI _)) (.cons (Ev.conv (.name rfl) (toI _)) (.cons (Ev.conv (.name rfl) (toI _)) .nil))) (fr _ _ (inc_lit xs n) (inc_oth n sp i) sli sot)) (.bool _)
  exact Ex.weak Ex.nil (.upd rfl (.upd rfl (.upd rfl (.upd rfl (.upd rfl (.upd rfl (.upd rfl (.upd rfl (.upd rfl (.upd rfl .ini))))))))))
end
end Mine
namespace Mine
section
variable {C : Cx}
theorem law_g (B : LB C) (ns : List Int) (n : Nat) (hn : n = 4 ∨ n = 5) (xs : Nat → Nat) (hx : ∀ k, xs k < 576) (sp : Nat) : Ex C (fnScope 13) (lawSt23 ns n xs sp) ((fnBody 13).drop 23) (.ret (.bool true)) := by
  conv => arg 4; whnf
  refine Ex.cons (Ex1.forN (fun _ => lawSt23 ns n xs sp) 4 (.name rfl) (.lst _) (by simp) rfl (by simp) (fun k dd hk hd => ?_) (.all (by simp) Ex.nil)) (Ex.stop (Ex1.ret .bool))
  rw [get_map hk] at hd
  cases hd
  exact ⟨_, Asg.unpack (ns := [("need", _), ("window", _), ("other", _)]) (.tup _) (by decide +kernel) rfl (Nat.le_of_ble_eq_true rfl), win_f B ns n hn xs hx sp k hk⟩

theorem law_tail (B : LB C) (ns : List Int) (hns : ns.length ≤ 100) : Ex C (fnScope 13) (upd (params ["script"] [.scr ns]) "count" (.int (nOf ns))) ((fnBody 13).drop 1) (.ret (.bool true)) := by
  have hn := nOf_or ns
  have hn5 : nOf ns ≤ 5 := by omega
  exact law_a B ns hns (law_b B ns _ hn5 _ (xOf_lt ns) (law_c B ns _ hn5 _ (xOf_lt ns) (law_d B ns hns _ hn _ (law_g B ns _ hn _ (xOf_lt ns) _))))
end
end Mine
namespace Mine
section
variable {C : Cx} {sc : Scope} {σ : St}

theorem load_glob0 {M : Model} {A : Around} {E : Value → Shared → Prop} {s : Shared} {env : Env} {x : PySem.Str} {v : Value} {Z : Addr → Prop} {pos : Pos} {Q : Value → Shared → Prop} (V : View C env s.heap Z σ) (hx : env.scope.names.lookup x = some .globalImplicit)
    (hG : C.G x = some v) (h : Q v s) (hd : (x == ("__debug__" : PySem.Str)) = false := by decide) : wpAny M A (eval (.Name x pos) env) Q E s := by
  obtain ⟨mg, mb, g, b, hv⟩ := V.base.glo
  refine Calls.Name_function_global V.kind hx ?_ hd
  rcases hv x v hG with q | ⟨q, q'⟩
  · exact Calls.loadGlobal_global (mg := mg) (by rw [V.glb]; exact g.keeps V.keep) q h
  · exact Calls.loadGlobal_builtin (mg := mg) (mb := mb) (by rw [V.glb]; exact g.keeps V.keep) q (by rw [V.bui]; exact b.keeps V.keep) q' h

/-- the length of the script: behind it a token is drawn -/
theorem len0 {ns : List Int} {p1 p2 p3 : Pos} (hlen : C.G "len" = some (.builtin "len")) (hl : sc.names.lookup ("len" : PySem.Str) = some .globalImplicit) (hσ : σ "script" = some (.scr ns)) (hn : ns.length ≤ 2 ^ 24) (env : Env) (A : Around) (s : Shared) (Z : Addr → Prop) (he : env.scope = sc) (V : View C env s.heap Z σ) :
    wpAny (model C.prog C.w) A (eval (.Call (.Name "len" p1) [.Name "script" p2] [] p3) env) (fun v s' => Kp s s' ∧ Rep s'.heap Z v (.int ns.length) ∧ 0 < s'.toks) (fun _ _ => False) s := by
  obtain ⟨v, hs, hr⟩ := V.var _ _ hσ
  have hr : Rep s.heap Z v (.scr ns) := hr.to rfl
  cases hr with | @scr a ws _ hnz hL hi =>
  have hlw := hi.length
  refine Call_ (load_glob0 V (by rw [he]; exact hl) hlen ?_) rfl
  refine callWith_builtin1 ?_ (starEach_cons rfl) (plain_args rfl)
  refine wpAny_items_cons (wpAny_Name (loadName_sees V.kind hs ?_ (by decide)) (by decide)) (starEach_cons rfl)
  refine wpAny_items_nil ?_
  refine PyProof.Rows.len_list hL (by rw [List.size_toArray]; omega) ⟨.tok s _, ?_, Nat.succ_pos _⟩
  rw [List.size_toArray, hlw]; exact .int _ _

theorem law_start (B : LB C) (ns : List Int) (hns : ns.length ≤ 100) (env : Env) (A : Around) (s : Shared) (X Z : Addr → Prop) (he : env.scope = fnScope 13) (hA : AOk C.k A) (F : FView C env s.heap X Z (params ["script"] [.scr ns])) :
    wpAny (model C.prog C.w) A (execs (fnBody 13) env) (fun f s' => ∃ h' tk, s' = { s with heap := h', toks := tk } ∧ OutOk C env s.heap X Z (params ["script"] [.scr ns]) h' f (.ret (.bool true))) (fun _ _ => False) s := by
  have hb : fnBody 13 = stm 0 :: (fnBody 13).drop 1 := rfl
  rw [hb]
  refine wpAny_execs_cons ?_
  show wpAny _ A (exec (.Assign [.Name "count" _] (.IfExp (.Compare (.Call (.Name "len" _) [.Name "script" _] [] _) [.Gt] [.Constant (.int 4) 0 _] _) (.Constant (.int 5) 0 _) (.Constant (.int 4) 0 _) _) _) env) _ _ s
  refine wpAny_Assign_Name (wpAny_IfExp (wpAny_isTrue_Compare1 (wpAny_mono (len0 B.len (by decide +kernel) rfl (by omega) env A s (Zone env s.heap X Z (params ["script"] [.scr ns])) he F.view) (fun v s1 q => ?_) fun _ _ q => q.elim) (by with_unfolding_all rfl))) (swaps_not rfl)
  obtain ⟨k1, r1, p1⟩ := q
  have V1 : VV C env s1 (Zone env s.heap X Z (params ["script"] [.scr ns])) (params ["script"] [.scr ns]) := ⟨F.view.keeps k1.old, p1⟩
  refine Ev.int.then he hA V1 fun v2 s2 k2 V2 r2 => ?_
  refine toks_in V2.tk (wpAny_mono (Cmp.gt_int (C := C) A s2 _ _ _ hA V2.base V2.keep (r1.keeps k2.old) r2) (fun v s3 q p3 => ?_) fun _ _ q => q.elim)
  obtain ⟨k3, rfl⟩ := q
  refine wpAny_truthy_bool ?_
  have V3 : VV C env s3 (Zone env s.heap X Z (params ["script"] [.scr ns])) (params ["script"] [.scr ns]) := ⟨V2.toView.keeps k3.old, p3⟩
  have fin : ∀ e, Ev C (fnScope 13) (params ["script"] [.scr ns]) e (.int (nOf ns)) → wpAny (model C.prog C.w) A (eval e env) (fun v s4 => wpAny (model C.prog C.w) A (storeName env "count" v) (fun _ s5 => wpAny (model C.prog C.w) A (execs ((fnBody 13).drop 1) env) (fun f s' => ∃ h' tk, s' = { s with heap := h', toks := tk } ∧ OutOk C env s.heap X Z (params ["script"] [.scr ns]) h' f (.ret (.bool true))) (fun _ _ => False) s5) (fun _ _ => False) s4) (fun _ _ => False) s3 := fun e hev => by
    refine hev.then he hA V3 fun v4 s4 k4 V4 r4 => ?_
    have kk := ((k1.tr k2).tr k3).tr k4
    obtain ⟨h4, tk4, rfl⟩ := kk.eq
    obtain ⟨F4, S4, zz⟩ := F.keeps kk.old
    refine toks_in V4.tk (storeName_F F4 (stored_of he rfl) (r4.weaken fun b q => (zz b).mp q) fun h5 tk5 F5 S5 p5 => ?_)
    refine wpAny_mono (law_tail B ns hns env A _ X Z he hA ⟨F5, p5⟩) (fun f s6 q => ?_) fun _ _ q => q.elim
    obtain ⟨h6, tk6, rfl, q⟩ := q
    exact ⟨h6, tk6, rfl, q.tr (S4.tr S5)⟩
  by_cases hc : 4 < ns.length
  · have e : decide ((4 : Int) < (ns.length : Int)) = true := by simpa using (by omega : (4 : Int) < (ns.length : Int))
    rw [e, if_pos rfl]
    exact fin _ (Ev.conv .int (by unfold nOf; rw [if_pos hc]; rfl))
  · have e : decide ((4 : Int) < (ns.length : Int)) = false := by simpa using (by omega : ¬ (4 : Int) < (ns.length : Int))
    rw [e, if_neg (by decide)]
    exact fin _ (Ev.conv .int (by unfold nOf; rw [if_neg hc]; rfl))
end
end Mine
namespace Mine
/-- a call of a def, from a body proved without a token drawn -/
theorem call_fn0 {C : Cx} {fa : Addr} {o : Obj} {fd : FuncData} {body : List Stmt} {xs : List PySem.Str} {ds : List D} {d : D} (ho : C.h₀.get? fa = some o) (hdat : o.data = .func fd) (hcd : C.h₀.CodeRec fd.code fd.qualname) (hbody : fd.body = .stmts body) (hclo : fd.closure = [])
    (hg : fd.globals = mainGlobals) (hb : fd.builtins = builtinsNs) (hk : C.k ≤ 50)
    (hbind : ∀ vs : List Value, vs.length = ds.length → bindArgs fd ⟨vs, []⟩ = pure (xs.zip vs)) (hlen : xs.length = ds.length) (hnd : xs.Nodup) (hkinds : xs.all (fun x => fd.scope.names.lookup x == some .local || fd.scope.names.lookup x == some .cell) = true)
    (hco : fd.scope.isCoroutine = false) (hgen : fd.scope.isGenerator = false) (hkf : fd.scope.kind = .function)
    (hex : ∀ (env : Env) (A : Around) (s : Shared) (X Z : Addr → Prop), env.scope = fd.scope → AOk C.deeper.k A → FView C.deeper env s.heap X Z (params xs ds) →
      wpAny (model C.prog C.w) A (execs body env) (fun f s' => ∃ h' tk, s' = { s with heap := h', toks := tk } ∧ OutOk C.deeper env s.heap X Z (params xs ds) h' f (.ret d)) (fun _ _ => False) s)
    (A : Around) (s : Shared) (Z : Addr → Prop) (vs : List Value) (hA : AOk C.k A) (B : BaseOk C) (hkeep : ∀ b o, C.h₀.get? b = some o → s.heap.get? b = some o) (hz : ∀ a, Z a → ∃ o, s.heap.get? a = some o) (r : Reps s.heap Z vs ds) :
    codeAny (model C.prog C.w) A (.call (.ref fa) ⟨vs, []⟩) (fun r s' => ∃ v, r = .ok (.ret v) ∧ Kp s s' ∧ Rep s'.heap Z v d) s := by
  have hlv : vs.length = ds.length := r.length
  have hmap : (xs.zip vs).map (·.1) = xs := by
    rw [List.map_fst_zip]; rw [hlen, hlv]; exact Nat.le_refl _
  have hkb : (xs.zip vs).all (fun y => fd.scope.names.lookup y.1 == some .local || fd.scope.names.lookup y.1 == some .cell) = true := by
    rw [List.all_eq_true]; intro y hy
    have : y.1 ∈ xs := by rw [← hmap]; exact List.mem_map.mpr ⟨y, hy, rfl⟩
    exact List.all_eq_true.mp hkinds _ this
  have hroom : A.depth < recursionLimit := by have := hA.dep; show A.depth < 1000; omega
  refine codeAny_call_cells hroom (hkeep _ _ ho) hdat (B.nolim.keeps hkeep) (hcd.keeps hkeep) hbody (hbind vs hlv) hclo (kindsX hkb _) (fun s₁ I => ?_) hco hgen hkf
  generalize henv : callEnvC fd s.heap.objs.size fa = env at *
  have hsc : env.scope = fd.scope := by rw [← henv]; rfl
  have hL : env.locals = s.heap.objs.size := by rw [← henv]; rfl
  have hcells : env.cells = cellsFrom (s.heap.objs.size + 1) fd.scope.names [] := by rw [← henv]; rfl
  obtain ⟨h₁, tk, rfl, hk1⟩ := I.done
  let Z' : Addr → Prop := fun b => b = env.locals ∨ ∃ x, env.cells.lookup x = some b
  have hZ's : ∀ b, Z' b → s.heap.get? b = none := fun b q => by
    have hle : s.heap.objs.size ≤ b := by
      rcases q with q | ⟨x, q⟩
      · rw [q, hL]; exact Nat.le_refl _
      · have := I.above x b (mem_of_lookup q); rw [hL] at this; exact Nat.le_of_lt this
    cases e : s.heap.get? b with
    | none => rfl
    | some o => exact absurd (Heap.lt_size e) (Nat.not_lt.mpr hle)
  have noOwn : ∀ y es, params xs ds y ≠ some (.own es) := fun y es e => by
    obtain ⟨v, _, rv⟩ := params_at r e; cases rv
  have noOwn' : ∀ a, ¬ Own env h₁ (params xs ds) a := fun a ⟨y, es, e, _⟩ => noOwn y es e
  have F : FView C.deeper env h₁ Z Z' (params xs ds) := by
    refine ⟨⟨⟨B.glo, B.nolim, B.nob⟩, fun b o e => hk1 b o (hkeep b o e), by rw [hsc]; exact hkf, by rw [← henv]; exact hg, by rw [← henv]; exact hb, fun a q => ?_, fun y dy hy => ?_⟩, ⟨_, I.toInCall.ns⟩, .inl rfl, fun x c e => ⟨.inr ⟨x, e⟩, _, I.cell x c e⟩, fun x hx => ?_, fun x y c e e' => ?_, fun a q => ?_, fun a q => (noOwn' a q).elim, fun x y es fs a e => (noOwn x es e).elim⟩
    · rcases q with q | (q | ⟨x, q⟩) | q
      · obtain ⟨o, e⟩ := hz a q; exact ⟨o, hk1 a o e⟩
      · rw [q]; obtain ⟨o, _, _, e, _⟩ := I.toInCall.ns; exact ⟨o, e⟩
      · obtain ⟨o, e, _⟩ := I.cell x a q; exact ⟨o, e⟩
      · exact (noOwn' a q).elim
    · obtain ⟨v, hv, rv⟩ := params_at r hy
      refine ⟨v, ?_, .of (rv.move (fun b o _ e => hk1 b o e) fun b q => ?_)⟩
      · have hyx : y ∈ xs := by rw [← hmap]; exact List.mem_map.mpr ⟨_, hv, rfl⟩
        have hky := List.all_eq_true.mp hkinds y hyx
        have hndz : ((xs.zip vs).map (·.1)).Nodup := by rw [hmap]; exact hnd
        by_cases hl : env.kindOf y = some .local
        · exact .inl ⟨hl, _, I.toInCall.ns, bindL_at _ _ _ _ _ hndz hv hl⟩
        · have hc : env.kindOf y = some .cell := by
            unfold Env.kindOf at hl ⊢; rw [hsc] at hl ⊢
            rw [Bool.or_eq_true] at hky
            rcases hky with q | q
            · exact absurd (by simpa using q) hl
            · simpa using q
          have hsome : ((cellsFrom (s.heap.objs.size + 1) fd.scope.names []).lookup y).isSome = true := cellsFrom_some _ _ _ (.inl (by rw [← hsc]; exact hc))
          obtain ⟨c, e⟩ := Option.isSome_iff_exists.mp hsome
          rw [← hcells] at e
          have hcell := I.cell y c e
          rw [bindC_at _ _ _ _ _ hndz hv hl] at hcell
          exact .inr ⟨.inl hc, c, e, hcell⟩
      · rcases q with q | q | q
        · exact .inl q
        · exact .inr (hZ's b q)
        · exact (noOwn' b q).elim
    · have hsome : ((cellsFrom (s.heap.objs.size + 1) fd.scope.names []).lookup x).isSome = true := cellsFrom_some _ _ _ (.inl (by rw [← hsc]; exact hx))
      obtain ⟨c, e⟩ := Option.isSome_iff_exists.mp hsome
      exact ⟨c, by rw [hcells]; exact e⟩
    · exact name_of_addr I.apart (mem_of_lookup e) (mem_of_lookup e')
    · cases e : C.deeper.h₀.get? a with
      | none => rfl
      | some o => have := hkeep a o e; rw [hZ's a q] at this; cases this
  have hA' : AOk C.deeper.k (A.deeper env) := ⟨hA.hh, by have := hA.dep; show A.depth + 1 ≤ 400 + (C.k + 1); omega, by have := hA.uni; show A.units + 3 ≤ 100 + 10 * (C.k + 1); omega⟩
  refine wpAny_mono (hex env (A.deeper env) { s with heap := h₁, toks := tk } Z Z' hsc hA' F) (fun f s' q => ?_) fun _ _ q => q.elim
  obtain ⟨h', tk', rfl, q⟩ := q
  cases f with
  | ret v =>
    refine ⟨v, rfl, .mk' fun b o e => q.2 b o (fun qz => by rw [hZ's b qz] at e; cases e) (noOwn' b) (hk1 b o e), q.1.weaken fun b q => .inl q⟩
  | _ => exact q.elim
end Mine
namespace Mine

noncomputable def globs (mg mb : PySem.Str → Option Value) (x : PySem.Str) : Option Value := match mg x with
  | some v => some v
  | none => mb x
/-- what the top has bound to the def f -/
noncomputable def Kn (mg : PySem.Str → Option Value) (h : Heap) (f : PySem.Str) (n : Nat) : Prop :=
  ∃ a o pm cd doc, mg f = some (.ref a) ∧ h.get? a = some o ∧ o.data = .func (Calls.docDef f (fnArgs n) (fnBody n) (fnScope n) pm cd doc) ∧ h.CodeRec cd f
noncomputable def Bi (mg mb : PySem.Str → Option Value) (x : PySem.Str) (v : Value) : Prop := mg x = none ∧ mb x = some v
theorem Bi.g {mg mb : PySem.Str → Option Value} {x : PySem.Str} {v : Value} (h : Bi mg mb x v) : globs mg mb x = some v := by unfold globs; rw [h.1]; exact h.2
theorem globs_of {mg mb : PySem.Str → Option Value} {x : PySem.Str} {v : Value} (h : mg x = some v) : globs mg mb x = some v := by unfold globs; rw [h]

theorem law_goal {prog : Program} {w : World} {s₁ : Shared} {mg mb : PySem.Str → Option Value} {fa a d : Addr} {vs : List Value} {ns : List Int} {t : Tok} (g : s₁.heap.Ns mainGlobals mg) (b : s₁.heap.Ns builtinsNs mb) (nl : s₁.heap.NoLimit) (nob : NoneBooked s₁.heap)
    (k1 : Kn mg s₁.heap "rgb_to_yiq" 1) (k2 : Kn mg s₁.heap "rgb_to_hls" 2) (k3 : Kn mg s₁.heap "hsv_to_rgb" 3) (k6 : Kn mg s₁.heap "pretty_flags" 6) (k9 : Kn mg s₁.heap "_ellipsis_match" 9) (k11 : Kn mg s₁.heap "_law_parts" 11) (k12 : Kn mg s₁.heap "_law_friends" 12) (k13 : Kn mg s₁.heap "law" 13)
    (hm : mg "law" = some (.ref fa)) (hell : mg "ELLIPSIS_MARKER" = some (.str dots t)) (htab : mg "COMPILER_FLAG_NAMES" = some (.ref d)) (tab : IntTab prog w s₁.heap d flagTab)
    (b1 : Bi mg mb "len" (.builtin "len")) (b2 : Bi mg mb "range" (.type "range")) (b3 : Bi mg mb "max" (.builtin "max")) (b4 : Bi mg mb "min" (.builtin "min")) (b5 : Bi mg mb "sum" (.builtin "sum")) (b6 : Bi mg mb "int" (.type "int")) (b7 : Bi mg mb "hex" (.builtin "hex"))
    (hL : s₁.heap.IsList a vs.toArray) (hI : IntsAre vs ns) (hn : ns.length ≤ 100) :
    wpAny (model prog w) callerA (call (.ref fa) [.ref a]) (fun v s' => Kp s₁ s' ∧ v = .bool true) (fun _ _ => False) s₁ := by
  let C : Cx := { prog := prog, w := w, G := globs mg mb, h₀ := s₁.heap, k := 0 }
  have base : BaseOk C := ⟨⟨mg, mb, g, b, fun x v e => by
    have e : globs mg mb x = some v := e
    unfold globs at e
    cases q : mg x with
    | some u => rw [q] at e; exact .inl e
    | none => rw [q] at e; exact .inr ⟨rfl, e⟩⟩, nl, nob⟩
  have kn : ∀ f n, Kn mg s₁.heap f n → ∃ a, Known C.deeper f a n := fun f n ⟨a, o, pm, cd, doc, h1, h2, h3, h4⟩ => ⟨a, globs_of h1, o, pm, cd, doc, h2, h3, h4⟩
  obtain ⟨a1, k1⟩ := kn _ _ k1
  obtain ⟨a2, k2⟩ := kn _ _ k2
  obtain ⟨a3, k3⟩ := kn _ _ k3
  obtain ⟨a6, k6⟩ := kn _ _ k6
  obtain ⟨a9, k9⟩ := kn _ _ k9
  obtain ⟨a11, k11⟩ := kn _ _ k11
  obtain ⟨a12, k12⟩ := kn _ _ k12
  obtain ⟨a13, o, pm, cd, doc, h1, h2, h3, h4⟩ := k13
  rw [hm] at h1
  cases h1
  have L : LB C.deeper := { y := a1, h := a2, v := a3, p := a6, e := a9, pa := a11, fr := a12, d := d, t := t, yiq := k1, hls := k2, hsv := k3, flags := k6, tab := ⟨globs_of htab, tab⟩, em := k9, ell := globs_of hell, parts := k11, friends := k12, len := b1.g, range := b2.g, max := b3.g, min := b4.g, sum := b5.g, int := b6.g, hex := b7.g, k := (by decide : (1 : Nat) ≤ 40) }
  have hA : AOk C.k callerA := ⟨rfl, (by decide : callerA.depth ≤ 400), (by decide : callerA.units ≤ 100)⟩
  have rs : Reps s₁.heap (fun _ => False) [.ref a] [.scr ns] := .cons (.scr (fun q => q) hL hI) .nil
  have main := call_fn0 (C := C) (xs := ["script"]) (ds := [.scr ns]) (d := .bool true) h2 h3 h4 rfl rfl rfl rfl (by decide : (0 : Nat) ≤ 50) (bind1 fun _ => rfl) rfl (by decide) (by decide +kernel : ([("script" : PySem.Str)].all fun x => (fnScope 13).names.lookup x == some .local || (fnScope 13).names.lookup x == some .cell) = true) rfl rfl rfl
    (fun env A s X Z he hA F => law_start L ns hn env A s X Z he hA F) callerA s₁ (fun _ => False) [.ref a] hA base (fun _ _ e => e) (fun _ q => q.elim) rs
  refine wpAny_call (codeAny_mono main fun r s' q => ?_)
  obtain ⟨v, rfl, k, rv⟩ := q
  cases rv
  exact ⟨k, rfl⟩
end Mine
namespace Mine
theorem kn_of {p : Program} {loose : List PySem.Str} {mean : ExcName → Option Value} {mg mb : PySem.Str → Option Value} {h : Heap} (T : Top p loose mean mg mb h) (f : PySem.Str) (n : Nat) (h1 : ∃ q, (⟨f, fnArgs n, fnBody n, fnScope n, q⟩ : DefRec) ∈ recsOf p) : Kn mg h f n :=
  let ⟨_, hq⟩ := h1
  let ⟨a, o, pm, cd, doc, e1, e2, e3, e4⟩ := T.fn _ hq
  ⟨a, o, pm, cd, doc, e1, e2, e3, e4⟩
theorem tab_prog {p q : Program} {w : World} {h : Heap} {d : Addr} {D : List (PyData × PyData)} (T : IntTab p w h d D) : IntTab q w h d D := by
  obtain ⟨lo, kvs, ⟨o, es, ep, ho, hx, hd, hk, hp, hn⟩, hf⟩ := T
  refine ⟨lo, kvs, ⟨o, es, ep, ho, hx, hd, hk, ?_, hn⟩, hf⟩
  have go : ∀ (l : List DictEntry) (kvs : List (Int × Value)), Pairs (intKind p w) l kvs → Pairs (intKind q w) l kvs := by
    intro l kvs h
    induction h with
    | nil => exact .nil
    | cons a b _ ih => exact .cons a b ih
  exact go _ _ hp
theorem bi_of {p : Program} {loose : List PySem.Str} {mean : ExcName → Option Value} {mg mb : PySem.Str → Option Value} {h : Heap} (T : Top p loose mean mg mb h) (x : PySem.Str) (v : Value)
    (h1 : (!startupNames.contains x && !loose.contains x && !((recsOf p).map (·.name)).contains x && !((litsOf p).map (·.1)).contains x && !((clssOf p loose).map (·.name)).contains x && !(x == ("__name__" : PySem.Str))) = true) (h2 : bootBuiltins x = some v) : Bi mg mb x v := by
  simp only [Bool.and_eq_true, Bool.not_eq_true', List.contains_eq_mem, decide_eq_false_iff_not, beq_eq_false_iff_ne] at h1
  obtain ⟨⟨⟨⟨⟨a, b⟩, c⟩, d⟩, e⟩, f⟩ := h1
  exact ⟨T.free x a b c d e, (T.builtins x f).trans h2⟩
end Mine
open Mine
set_option maxHeartbeats 8000000 in
theorem PySem.Challenge.cw_re0050_01_holds : PySem.Challenge.rw_re0050_01.Holds := by
  w_on
  o_law
  k_head
  (case hw => w_witness2)
  k_fill
  intro w s₀ s₁ mg mb G Y fa o pm cd doc dV kV ho hdd hcd hD hmg hg args vals as hpre hlay hrd hwl hlo
  have KX := kIn_of Y
  refine Ground.open G ?_
  intro T B D TE TW
  have hmg' : mg "law" = some (.ref fa) := hmg
  clear Y
  wrow_args hpre hlay hrd hwl hlo
  rename IntsAre _ _ => hI
  rename Heap.IsList _ _ _ => hL
  rename ¬ _ < _ => hlen
  obtain ⟨v, hv, rv⟩ := T.const "ELLIPSIS_MARKER" (.str dots) rfl
  have hst : ∃ t, v = .str dots t := by cases rv s₁.heap; exact ⟨_, rfl⟩
  obtain ⟨t, rfl⟩ := hst
  obtain ⟨d, hd1, hd2⟩ := B.tabI "COMPILER_FLAG_NAMES" flagTab rfl
  have hd2 : IntTab PySem.Challenge.rw_re0050_01.row.prog w s₁.heap d flagTab := tab_prog hd2
  have nob : NoneBooked s₁.heap := by
    obtain ⟨mc, hc, _⟩ := T.nolimit
    exact ⟨mc, hc, ns_none_of KX hc (by rfl)⟩
  have := law_goal (prog := PySem.Challenge.rw_re0050_01.row.prog) (w := w) (s₁ := s₁) (mg := mg) (mb := mb) (fa := fa) T.g T.b T.nolimit nob
    (kn_of T "rgb_to_yiq" 1 ⟨_, List.mem_of_getElem? (i := 0) rfl⟩) (kn_of T "rgb_to_hls" 2 ⟨_, List.mem_of_getElem? (i := 1) rfl⟩) (kn_of T "hsv_to_rgb" 3 ⟨_, List.mem_of_getElem? (i := 2) rfl⟩) (kn_of T "pretty_flags" 6 ⟨_, List.mem_of_getElem? (i := 3) rfl⟩) (kn_of T "_ellipsis_match" 9 ⟨_, List.mem_of_getElem? (i := 4) rfl⟩) (kn_of T "_law_parts" 11 ⟨_, List.mem_of_getElem? (i := 5) rfl⟩) (kn_of T "_law_friends" 12 ⟨_, List.mem_of_getElem? (i := 6) rfl⟩) (kn_of T "law" 13 ⟨_, List.mem_of_getElem? (i := 7) rfl⟩)
    hmg' hv hd1 hd2 (bi_of T "len" _ (by decide +kernel) rfl) (bi_of T "range" _ (by decide +kernel) rfl) (bi_of T "max" _ (by decide +kernel) rfl) (bi_of T "min" _ (by decide +kernel) rfl) (bi_of T "sum" _ (by decide +kernel) rfl) (bi_of T "int" _ (by decide +kernel) rfl) (bi_of T "hex" _ (by decide +kernel) rfl)
    hL hI (by omega)
  refine wpAny_mono this (fun v s' q => GoodW.toG ?_) fun _ _ q => q.elim
  obtain ⟨k, rfl⟩ := q
  obtain ⟨h', tk, rfl⟩ := k.eq
  exact ⟨.inl ⟨.bool true, .bool true, [], rfl, fun _ => rfl, .bool true, postW_of rfl (w_eq_bool (w_res rfl) w_lit) rfl, fun _ => ⟨List.nodup_nil, fun _ q => by cases q⟩⟩, k.old, rfl, hg⟩
