import PyProof.Rows.All
import Wide.All
import OpenK.AllK
import Wide.FinOn
import Lean
import PySem.Challenge.RW_mq0093_01
open PySem PySem.W PyProof.Rows PySem.Calls
set_option Elab.async false
namespace Mine
/-! The static heap's constant `hk.heap_1` alone: `k_head` lays it ahead of the head, and the head is left to `law_holds`
(the local line closes the goal by the premise `False`; nothing uses `hk` itself). -/
section
local macro_rules | `(tactic| o_head $_) => `(tactic| (exfalso; assumption))
set_option maxRecDepth 100000 in
set_option maxHeartbeats 8000000 in
theorem hk : False → PySem.Challenge.rw_mq0093_01.row.Holds := by
  intro hn
  k_head
end
set_option maxRecDepth 100000

section Part_base
abbrev lw : PySem.W.OpenLaw := PySem.Challenge.rw_mq0093_01
noncomputable abbrev Kf (w : World) : Frag := hk.heap_1 w.params

section
variable {prog : Program} {w : World} {A : Around} {s : Shared} {K : Frag} {R : Result → Shared → Prop}
  {name qual : Str} {params : Arguments} {body : List Stmt} {scope : Scope} {dV kV doc pm cdv ct oc : Value} {an od : Option Addr} {osl : Array (Option Value)} {f : Addr} {args : Args} {binds : List (Str × Value)}

/-- a call of one of the text's own defs, from its own heap as the ground; nothing is raised -/
theorem callOwn (X : K.In s.heap) (hlim : s.heap.NoLimit)
    (ho : K.lookup f = some ⟨oc, od, .func (fnOf name qual params body scope dV kV doc pm an cdv ct), osl⟩) (hcd : codeIn K cdv qual = true) (hroom : A.depth < recursionLimit)
    (hbind : BindsTo s (fnOf name qual params body scope dV kV doc pm an cdv ct) args binds) (hloc : ∀ y ∈ binds, scope.names.lookup y.1 = some .local)
    (h : ∀ h₁, Fr s.heap s.heap.objs.size h₁ (fun y => binds.reverse.lookup y) →
      wpAny (model prog w) (A.deeper (envOf qual scope s.heap.objs.size f cdv)) (execs body (envOf qual scope s.heap.objs.size f cdv))
        (fun fl s' => R (.ok (.ret (match fl with | .ret v => v | _ => .none))) s') (fun _ _ => False)
        { s with heap := h₁, toks := s.toks + binds.length })
    (hco : scope.isCoroutine = false) (hgen : scope.isGenerator = false) (hk : scope.kind = .function)
    (hcell : ∀ x ∈ scope.names, x.2 ≠ .cell) : codeAny (model prog w) A (.call (.ref f) args) R s := by
  refine codeAny_call_function (fd := fnOf name qual params body scope dV kV doc pm an cdv ct) hroom (X _ _ ho) rfl hco hgen rfl (codeRec_of X hcd) ?_
  refine hbind _ _ _ _ ?_
  refine wpAny_newFunctionEnv hcell hloc (fun h₁ hns hsb => ⟨hlim.fresh _ hsb, ?_⟩) hk
  show codeAny _ _ (.func body (envOf qual scope s.heap.objs.size f cdv)) _ _
  exact codeAny_func (wpAny_mono (h h₁ ⟨hns, fun b o e => hsb.extBut b o (Nat.ne_of_lt (Heap.lt_size e)) (Heap.get?_push_of_some _ e), Nat.le_refl _⟩) (fun _ _ x => x) (fun _ _ x => x.elim))
end
end Part_base

section Part_g1
abbrev NoE : Value → Shared → Prop := fun _ _ => False
abbrev Stays (h h' : Heap) : Prop := ∀ b o, h.get? b = some o → h'.get? b = some o

theorem fr_stays {h₀ h h' : Heap} {L : Addr} {m : Str → Option Value} (F : Fr h₀ L h m) (k : Stays h h') : Fr h₀ L h' m :=
  ⟨F.ns.keeps k, fun b o e => k b o (F.keep b o e), F.above⟩
theorem news_stays {h₀ h h' : Heap} {L : Addr} {news : List (Addr × Obj)} (N : News h₀ L h news) (k : Stays h h') : News h₀ L h' news :=
  fun p hp => ⟨k _ _ (N p hp).1, (N p hp).2⟩
theorem kst_self {m : Str → Option Value} {ps : List (Str × Value)} (h : ∀ p ∈ ps, m p.1 = some p.2) : kstB m ps = m := by
  funext z
  exact kstB_eq h fun _ => rfl
theorem fr_kst {h₀ h : Heap} {L : Addr} {m : Str → Option Value} (ps : List (Str × Value)) (F : Fr h₀ L h m) (hq : ∀ p ∈ ps, m p.1 = some p.2) : Fr h₀ L h (kstB m ps) := by
  rw [kst_self hq]; exact F
theorem noE_mono {α : Type} {M : Model} {A : Around} {t : Sem α} {Q : α → Shared → Prop} {E : Value → Shared → Prop} {s : Shared} (h : wpAny M A t Q NoE s) : wpAny M A t Q E s :=
  wpAny_mono h (fun _ _ x => x) (fun _ _ x => x.elim)

section
variable {prog : Program} {w : World} {A : Around} {s : Shared} {env : Env} {h₀ : Heap}

/-- what a turn of a loop must leave behind -/
inductive StepI (h₀ : Heap) (L I : Addr) (oI : Obj) (J : Array GenState → (Str → Option Value) → List (Addr × Obj) → Prop) (d : Drawn) (os : OsState) (s₃ : Shared) : Prop
  | mk (h' : Heap) (tk : Nat) (g : Array GenState) (m₂ : Str → Option Value) (news₂ : List (Addr × Obj)) (e0 : s₃ = ⟨h', g, d, tk, os⟩) (e1 : Fr h₀ L h' m₂) (e2 : News h₀ L h' ((I, oI) :: news₂)) (e3 : ∀ p ∈ news₂, p.1 ≠ I) (e4 : J g m₂ news₂) : StepI h₀ L I oI J d os s₃
def StepE (h₀ : Heap) (L I : Addr) (oI : Obj) (J : Array GenState → (Str → Option Value) → List (Addr × Obj) → Prop) (s s₃ : Shared) : Prop := StepI h₀ L I oI J s.drawn s.os s₃

def TurnE (h₀ : Heap) (L I : Addr) (oI : Obj) (J : Array GenState → (Str → Option Value) → List (Addr × Obj) → Prop) (s : Shared) (Q : Flow → Shared → Prop) (f : Flow) (s₃ : Shared) : Prop :=
  match f with
  | .next => StepE h₀ L I oI J s s₃
  | .cont => StepE h₀ L I oI J s s₃
  | .brk => Q .next s₃
  | .ret v => Q (.ret v) s₃

/-- a for's loop, behind its iterator, by an invariant over its turns; the iterator is the one new object that it turns itself -/
inductive ForAt (prog : Program) (w : World) (A : Around) (h₀ : Heap) (env : Env) (target : Expr) (body : List Stmt) (Q : Flow → Shared → Prop) (it : Value) (s₂ : Shared) : Prop
  | mk (I : Addr) (fp : List Addr) (n : Nat) (P : Nat → Value → Prop) (St : Nat → Heap → Prop) (m : Str → Option Value) (news : List (Addr × Obj)) (J : Nat → Array GenState → (Str → Option Value) → List (Addr × Obj) → Prop) (e0 : it = .ref I) (e1 : Walks prog w A I fp [I] n P St) (e2 : env.locals ≠ I) (e3 : h₀.get? I = none) (e4 : (∀ p ∈ news, p.1 ≠ I)) (e5 : St 0 s₂.heap) (e6 : (∀ i h, St i h → ∃ o, h.get? I = some o)) (e7 : (∀ b ∈ fp, b = I ∨ (∃ o, h₀.get? b = some o) ∨ (∃ o, ∀ i g m₁ news₁, J i g m₁ news₁ → (b, o) ∈ news₁))) (e8 : Fr h₀ env.locals s₂.heap m) (e9 : News h₀ env.locals s₂.heap news) (e10 : J 0 s₂.gens m news) (e11 : (∀ i (s' : Shared) v (Q' : Unit → Shared → Prop), St i s'.heap → Q' () s' → wpAny (model prog w) A (letOwnedTupleGo target (.ref I) v) Q' NoE s')) (e12 : (∀ i v m₁ news₁ g h tk oI, i < n → P i v → J i g m₁ news₁ → (∀ p ∈ news₁, p.1 ≠ I) → s₂.toks ≤ tk → Fr h₀ env.locals h m₁ → News h₀ env.locals h ((I, oI) :: news₁) →
          wpAny (model prog w) A (assign target env v) (fun _ s₃ => wpAny (model prog w) A (execs body env) (TurnE h₀ env.locals I oI (J (i + 1)) s₂ Q) NoE s₃) NoE { s₂ with heap := h, toks := tk, gens := g })) (e13 : (∀ h' tk g m' news', s₂.toks ≤ tk → Fr h₀ env.locals h' m' → News h₀ env.locals h' news' → (∀ p ∈ news', p.1 ≠ I) → J n g m' news' → Q .next { s₂ with heap := h', toks := tk, gens := g })) : ForAt prog w A h₀ env target body Q it s₂

inductive LoopJ (h₀ : Heap) (L I : Addr) (n : Nat) (St : Nat → Heap → Prop) (J : Nat → Array GenState → (Str → Option Value) → List (Addr × Obj) → Prop) (s₂ : Shared) (k : Nat) (s' : Shared) : Prop
  | mk (h' : Heap) (tk : Nat) (g : Array GenState) (m' : Str → Option Value) (news' : List (Addr × Obj)) (i : Nat) (e0 : s' = { s₂ with heap := h', toks := tk, gens := g }) (e1 : s₂.toks ≤ tk) (e2 : St i h') (e3 : Fr h₀ L h' m') (e4 : News h₀ L h' news') (e5 : ∀ p ∈ news', p.1 ≠ I) (e6 : J i g m' news') (e7 : i ≤ n) (e8 : k = n + 1 - i) : LoopJ h₀ L I n St J s₂ k s'
theorem for_inv {target iter : Expr} {body : List Stmt} {pos : Pos} {Q : Flow → Shared → Prop}
    (h : wpAny (model prog w) A (eval iter env) (fun xv s₁ => wpAny (model prog w) A (pyIter xv) (fun it s₂ => ForAt prog w A h₀ env target body Q it s₂) NoE s₁) NoE s)
    (hs : ∀ x, foldedSetIterable iter env x = pure x := by intro _; rfl) :
    wpAny (model prog w) A (exec (.For target iter body [] pos) env) Q NoE s := by
  refine wpAny_For (wpAny_mono h (fun xv s₁ h₁ => wpAny_mono h₁ (fun it s₂ h₂ => ?_) fun _ _ e => e) fun _ _ e => e) hs
  obtain ⟨I, fp, n, P, St, m, news, J, rfl, W, hLI, hI0, hnI, hst, hlive, hfp, F, N, hJ0, hgo, step, hQ⟩ := h₂
  refine codeAny_forLoop_any
    (LoopJ h₀ env.locals I n St J s₂) ?_ (n + 1)
    ⟨s₂.heap, s₂.toks, s₂.gens, m, news, 0, rfl, Nat.le_refl _, hst, F, N, hnI, hJ0, Nat.zero_le _, rfl⟩
  rintro k s' ⟨h', tk, g, m', news', i, rfl, htk, hst', F', N', hnI', hJ, hi, rfl⟩
  have next : ∀ h₁ : Heap, (∀ b o, b ∉ [I] → h'.get? b = some o → h₁.get? b = some o) → Fr h₀ env.locals h₁ m' ∧ News h₀ env.locals h₁ news' := fun h₁ hk₁ =>
    ⟨⟨F'.ns.at' fun o e => hk₁ _ o (by simpa using hLI) e, fun b o e => hk₁ b o (by simp only [List.mem_singleton]; rintro rfl; rw [hI0] at e; cases e) (F'.keep b o e), F'.above⟩,
      fun p hp => ⟨hk₁ _ _ (by simpa using hnI' p hp) (N' p hp).1, (N' p hp).2⟩⟩
  by_cases hlt : i < n
  · refine wpAny_with_toks (n := s₂.toks) htk (W.item i _ _ _ hlt hst' fun v h₁ tk₁ hP hst₁ hk₁ htk₁ => ?_)
    obtain ⟨F₁, N₁⟩ := next h₁ hk₁
    obtain ⟨oI, hoI⟩ := hlive _ _ hst₁
    refine noE_mono (hgo (i + 1) _ v _ hst₁ ?_)
    have N₂ : News h₀ env.locals h₁ ((I, oI) :: news') := fun p hp => by
      rcases List.mem_cons.mp hp with rfl | hp
      · exact ⟨hoI, fun e => hLI e.symm, hI0⟩
      · exact N₁ p hp
    refine noE_mono (wpAny_mono (wpAny_toks_of (n := s₂.toks) htk₁ (step i v m' news' g h₁ tk₁ oI hlt hP hJ hnI' htk₁ F₁ N₂)) (fun _ s₃ h₃ => noE_mono (wpAny_mono (wpAny_toks_of h₃.1 h₃.2) (fun f s₄ h₄ => ?_) fun _ _ e => e.2)) fun _ _ e => e.2)
    obtain ⟨htk₄, h₄⟩ := h₄
    have fin : StepE h₀ env.locals I oI (J (i + 1)) s₂ s₄ → ∃ k', k' < n + 1 - i ∧ LoopJ h₀ env.locals I n St J s₂ k' s₄ := by
      rintro ⟨h₅, tk₅, g₅, m₂, news₂, rfl, F₅, N₅, hn₅, hJ₅⟩
      refine ⟨n + 1 - (i + 1), by omega, h₅, tk₅, g₅, m₂, news₂, i + 1, rfl, htk₄, ?_, F₅, fun p hp => N₅ p (List.mem_cons_of_mem _ hp), hn₅, hJ₅, hlt, rfl⟩
      refine W.frame _ _ _ hst₁ fun b hb o e => ?_
      rcases hfp b hb with rfl | ⟨o', ho'⟩ | ⟨o', ho'⟩
      · have := (N₅ _ (List.mem_cons_self ..)).1
        rw [hoI] at e; cases e; exact this
      · have h1 := F₁.keep b o' ho'
        rw [h1] at e; cases e
        exact F₅.keep b _ ho'
      · have h1 := (N₁ _ (ho' _ _ _ _ hJ)).1
        rw [h1] at e; cases e
        exact (N₅ _ (List.mem_cons_of_mem _ (ho' _ _ _ _ hJ₅))).1
    cases f with
    | next => exact fin h₄
    | cont => exact fin h₄
    | brk => exact h₄
    | ret v => exact h₄
  · have hin : i = n := by omega
    subst hin
    refine wpAny_with_toks (n := s₂.toks) htk (W.done _ _ _ hst' fun h₁ tk₁ hk₁ htk₁ => wpAny_execs_nil ?_)
    obtain ⟨F₁, N₁⟩ := next h₁ hk₁
    exact hQ h₁ tk₁ g m' news' htk₁ F₁ N₁ hnI' hJ

section
variable {target : Expr} {body : List Stmt} {Q : Flow → Shared → Prop} {m : Str → Option Value} {news : List (Addr × Obj)}

/-- a turn's premise, for the iterators below -/
abbrev TurnOk (prog : Program) (w : World) (A : Around) (h₀ : Heap) (env : Env) (target : Expr) (body : List Stmt) (Q : Flow → Shared → Prop) (s : Shared) (n : Nat) (P : Nat → Value → Prop)
    (J : Nat → Array GenState → (Str → Option Value) → List (Addr × Obj) → Prop) : Prop :=
  ∀ I i v m₁ news₁ g h tk oI, i < n → P i v → J i g m₁ news₁ → (∀ p ∈ news₁, p.1 ≠ I) → s.toks ≤ tk → Fr h₀ env.locals h m₁ → News h₀ env.locals h ((I, oI) :: news₁) →
    wpAny (model prog w) A (assign target env v) (fun _ s₃ => wpAny (model prog w) A (execs body env) (TurnE h₀ env.locals I oI (J (i + 1)) s Q) NoE s₃) NoE { s with heap := h, toks := tk, gens := g }
abbrev DoneOk (h₀ : Heap) (env : Env) (Q : Flow → Shared → Prop) (s : Shared) (n : Nat) (J : Nat → Array GenState → (Str → Option Value) → List (Addr × Obj) → Prop) : Prop :=
  ∀ h' tk g m' news', s.toks ≤ tk → Fr h₀ env.locals h' m' → News h₀ env.locals h' news' → J n g m' news' → Q .next { s with heap := h', toks := tk, gens := g }

theorem size_new {h : Heap} (F : Fr h₀ env.locals h m) : h₀.get? h.objs.size = none := by
  cases e : h₀.get? h.objs.size with
  | none => rfl
  | some o => exact absurd (Heap.lt_size (F.keep _ _ e)) (Nat.lt_irrefl _)
theorem size_off {h : Heap} {L : Addr} (N : News h₀ L h news) : ∀ p ∈ news, p.1 ≠ h.objs.size := fun p hp e => absurd (Heap.lt_size (N p hp).1) (by rw [e]; exact Nat.lt_irrefl _)
theorem news_push {h : Heap} {L : Addr} (N : News h₀ L h news) (o : Obj) : News h₀ L (h.push o) news := fun p hp => ⟨Heap.get?_push_of_some _ (N p hp).1, (N p hp).2⟩

theorem iter_list {l : Addr} {vs : Array Value} (J : Nat → Array GenState → (Str → Option Value) → List (Addr × Obj) → Prop) (hh : A.handled = none)
    (hl : s.heap.IsList l vs) (hw : (∃ o, h₀.get? l = some o) ∨ (∃ o, ∀ i g m₁ news₁, J i g m₁ news₁ → (l, o) ∈ news₁))
    (F : Fr h₀ env.locals s.heap m) (N : News h₀ env.locals s.heap news) (h0 : J 0 s.gens m news)
    (turn : TurnOk prog w A h₀ env target body Q s vs.size (fun i v => vs[i]? = some v) J) (done : DoneOk h₀ env Q s vs.size J) :
    wpAny (model prog w) A (pyIter (.ref l)) (fun it s₂ => ForAt prog w A h₀ env target body Q it s₂) NoE s := by
  obtain ⟨ol, hol, hol'⟩ := id hl
  have hne : l ≠ s.heap.objs.size := Nat.ne_of_lt (Heap.lt_size hol)
  refine wpAny_pyIter_list hl ⟨_, _, _, _, _, m, news, J, rfl, Walks.list hh s.heap.objs.size l hne vs, ?_, size_new F, size_off N, ⟨⟨_, Heap.get?_push_size _ rfl, rfl, rfl⟩, ⟨ol, Heap.get?_push_of_some _ hol, hol'⟩⟩, ?_, ?_, F.push _, news_push N _, h0, ?_, ?_, ?_⟩
  · exact fun e => absurd F.ns.lt (by rw [e]; exact Nat.lt_irrefl _)
  · exact fun i h st => let ⟨o, ho, _⟩ := st.1; ⟨o, ho⟩
  · intro b hb
    rcases List.mem_cons.mp hb with e | e
    · exact .inl e
    · exact .inr ((List.mem_singleton.mp e) ▸ hw)
  · exact fun i s' v Q' st hQ => letGo_listiter st.1 hQ
  · exact fun i v m₁ news₁ g h tk oI => turn _ i v m₁ news₁ g h tk oI
  · exact fun h' tk g m' news' a b c _ d => done h' tk g m' news' a b c d

theorem iter_range {r : Addr} {a b c : Int} {t₀ u₀ v₀ : Tok} {n : Nat} {x : Str} {px : Pos} (J : Nat → Array GenState → (Str → Option Value) → List (Addr × Obj) → Prop) (hh : A.handled = none)
    (hr : IsRange s.heap r a b c t₀ u₀ v₀) (hsmall : Builtin.Range.small a b c = true) (hn : Builtin.Range.rangeSize a b c = (n : Int))
    (F : Fr h₀ env.locals s.heap m) (N : News h₀ env.locals s.heap news) (h0 : J 0 s.gens m news)
    (turn : TurnOk prog w A h₀ env (.Name x px) body Q s n (fun i v => ∃ t, v = .int (a + i * c) t) J) (done : DoneOk h₀ env Q s n J) :
    wpAny (model prog w) A (pyIter (.ref r)) (fun it s₂ => ForAt prog w A h₀ env (.Name x px) body Q it s₂) NoE s := by
  refine wpAny_pyIter_range hr hsmall ⟨_, _, _, _, _, m, news, J, rfl, Walks.range hh s.heap.objs.size a c n, ?_, size_new F, size_off N, ?_, ?_, ?_, F.push _, news_push N _, h0, ?_, ?_, ?_⟩
  · exact fun e => absurd F.ns.lt (by rw [e]; exact Nat.lt_irrefl _)
  · show IsRangeIter _ _ _ _ _
    rw [hn]; simpa using Heap.get?_push_size _ rfl
  · exact fun i h st => ⟨_, st⟩
  · exact fun b hb => .inl (List.mem_singleton.mp hb)
  · exact fun i s' v Q' st hQ => wpAny_pure hQ
  · exact fun i v m₁ news₁ g h tk oI => turn _ i v m₁ news₁ g h tk oI
  · exact fun h' tk g m' news' a b c _ d => done h' tk g m' news' a b c d

theorem iter_str {x : Str} {t : Tok} {y : Str} {px : Pos} (J : Nat → Array GenState → (Str → Option Value) → List (Addr × Obj) → Prop) (hh : A.handled = none)
    (ha : x.cps.all (· < 128) = true)
    (F : Fr h₀ env.locals s.heap m) (N : News h₀ env.locals s.heap news) (h0 : J 0 s.gens m news)
    (turn : TurnOk prog w A h₀ env (.Name y px) body Q s x.cps.size (SignAt x) J) (done : DoneOk h₀ env Q s x.cps.size J) :
    wpAny (model prog w) A (pyIter (.str x t)) (fun it s₂ => ForAt prog w A h₀ env (.Name y px) body Q it s₂) NoE s := by
  refine wpAny_pyIter_ascii ha ⟨_, _, _, _, _, m, news, J, rfl, Walks.strAscii hh s.heap.objs.size x t, ?_, size_new F, size_off N, ⟨_, Heap.get?_push_size _ rfl, rfl, rfl⟩, ?_, ?_, F.push _, news_push N _, h0, ?_, ?_, ?_⟩
  · exact fun e => absurd F.ns.lt (by rw [e]; exact Nat.lt_irrefl _)
  · exact fun i h st => let ⟨o, ho, _⟩ := st; ⟨o, ho⟩
  · exact fun b hb => .inl (List.mem_singleton.mp hb)
  · exact fun i s' v Q' st hQ => wpAny_pure hQ
  · exact fun i v m₁ news₁ g h tk oI => turn _ i v m₁ news₁ g h tk oI
  · exact fun h' tk g m' news' a b c _ d => done h' tk g m' news' a b c d

theorem iter_bytes {x : Array UInt8} {t : Tok} {y : Str} {px : Pos} (J : Nat → Array GenState → (Str → Option Value) → List (Addr × Obj) → Prop) (hh : A.handled = none)
    (F : Fr h₀ env.locals s.heap m) (N : News h₀ env.locals s.heap news) (h0 : J 0 s.gens m news)
    (turn : TurnOk prog w A h₀ env (.Name y px) body Q s x.size (fun i v => ∃ n u, x[i]? = some n ∧ v = .int n.toNat u) J) (done : DoneOk h₀ env Q s x.size J) :
    wpAny (model prog w) A (pyIter (.bytes x t)) (fun it s₂ => ForAt prog w A h₀ env (.Name y px) body Q it s₂) NoE s := by
  refine KBw.pyIter_bytes ⟨_, _, _, _, _, m, news, J, rfl, KBw.walks hh s.heap.objs.size x t, ?_, size_new F, size_off N, ⟨_, Heap.get?_push_size _ rfl, rfl, rfl⟩, ?_, ?_, F.push _, news_push N _, h0, ?_, ?_, ?_⟩
  · exact fun e => absurd F.ns.lt (by rw [e]; exact Nat.lt_irrefl _)
  · exact fun i h st => let ⟨o, ho, _⟩ := st; ⟨o, ho⟩
  · exact fun b hb => .inl (List.mem_singleton.mp hb)
  · exact fun i s' v Q' st hQ => wpAny_pure hQ
  · exact fun i v m₁ news₁ g h tk oI => turn _ i v m₁ news₁ g h tk oI
  · exact fun h' tk g m' news' a b c _ d => done h' tk g m' news' a b c d
end

/-- a while, by an invariant and a measure -/
theorem while_inv {test : Expr} {body : List Stmt} {pos : Pos} {Q : Flow → Shared → Prop} (J : Nat → Shared → Prop)
    (turn : ∀ n s, J n s → wpAny (model prog w) A (isTrue test env (eval test env)) (fun b s₁ =>
      if b = true then wpAny (model prog w) A (execs body env) (fun f s₂ => match f with
        | .next => ∃ k, k < n ∧ J k s₂
        | .cont => ∃ k, k < n ∧ J k s₂
        | .brk => Q .next s₂
        | .ret v => Q (.ret v) s₂) NoE s₁
      else Q .next s₁) NoE s) (n : Nat) (h : J n s) :
    wpAny (model prog w) A (exec (.While test body [] pos) env) Q NoE s := by
  refine wpAny_While (codeAny_whileLoop J ?_ n h)
  intro n s hJ
  refine noE_mono (wpAny_mono (turn n s hJ) (fun b s₁ h₁ => ?_) fun _ _ e => e)
  cases b with
  | false => simp only [Bool.false_eq_true, if_false] at h₁ ⊢; exact wpAny_execs_nil h₁
  | true =>
    simp only [if_true] at h₁ ⊢
    refine noE_mono (wpAny_mono h₁ (fun f s₂ h₂ => ?_) fun _ _ e => e)
    cases f <;> exact h₂

/-- all that stands in h beside the ground and the frame -/
def restOf (h_b h : Heap) (C : Addr) : List (Addr × Obj) := ownOf h_b ((List.range h.objs.size).filter (fun a => a != C)) h
theorem news_restOf {h_b h : Heap} {C : Addr} : News h_b C h (restOf h_b h C) := news_ownOf (by simp)
theorem mem_restOf {h_b h : Heap} {C a : Addr} {o : Obj} (hC : a ≠ C) (hb : h_b.get? a = none) (ho : h.get? a = some o) : (a, o) ∈ restOf h_b h C :=
  mem_ownOf (by simpa [hC] using Heap.lt_size ho) hb ho
theorem stays_rest {h_b h h' : Heap} {C : Addr} {m m' : Str → Option Value} (F : Fr h_b C h m) (F' : Fr h_b C h' m') (N' : News h_b C h' (restOf h_b h C)) {a : Addr} {o : Obj} (hC : a ≠ C) (ho : h.get? a = some o) : h'.get? a = some o := by
  cases hb : h_b.get? a with
  | none => exact (N' _ (mem_restOf hC hb ho)).1
  | some o' =>
    have h1 := F.keep a o' hb
    rw [ho] at h1; cases h1
    exact F'.keep a _ hb

/-- an iterator's walk that says of its items' tokens, too -/
structure WalksB (prog : Program) (w : World) (A : Around) (I : Addr) (fp : List Addr) (n₀ n : Nat) (P : Nat → Value → Nat → Prop) (St : Nat → Heap → Prop) : Prop where
  frame : ∀ i h h', St i h → (∀ b ∈ fp, ∀ o, h.get? b = some o → h'.get? b = some o) → St i h'
  item : ∀ i (s : Shared) (Q : Option Value → Shared → Prop) (E : Value → Shared → Prop), i < n → St i s.heap → n₀ ≤ s.toks →
    (∀ v h' tk, P i v tk → St (i + 1) h' → (∀ b o, b ∉ [I] → s.heap.get? b = some o → h'.get? b = some o) → Q (some v) { s with heap := h', toks := tk }) → wpAny (model prog w) A (pyNext (.ref I)) Q E s
  done : ∀ (s : Shared) (Q : Option Value → Shared → Prop) (E : Value → Shared → Prop), St n s.heap →
    (∀ h' tk, (∀ b o, b ∉ [I] → s.heap.get? b = some o → h'.get? b = some o) → Q none { s with heap := h', toks := tk }) → wpAny (model prog w) A (pyNext (.ref I)) Q E s
  self : ∀ i (s : Shared) (Q : Value → Shared → Prop) (E : Value → Shared → Prop), St i s.heap → Q (.ref I) s → wpAny (model prog w) A (pyIter (.ref I)) Q E s
theorem walks_toB {I : Addr} {fp : List Addr} {n₀ n : Nat} {P : Nat → Value → Prop} {St : Nat → Heap → Prop} (W : Walks prog w A I fp [I] n P St) : WalksB prog w A I fp n₀ n (fun i v _ => P i v) St where
  frame := W.frame
  item := fun i s Q E hi st _ hQ => W.item i s Q E hi st hQ
  done := W.done
  self := W.self
/-- the sign at i, its token fresh -/
def SignB (x : Str) (n₀ i : Nat) (v : Value) (tk : Nat) : Prop := ∃ c, ∃ u : Nat, x.cps[i]? = some c ∧ v = .str ⟨#[c]⟩ u ∧ n₀ ≤ u ∧ u < tk
theorem walksB_str (hh : A.handled = none) (I : Addr) (n₀ : Nat) (x : Str) (t : Tok) :
    WalksB prog w A I [I] n₀ x.cps.size (SignB x n₀) (fun i h => h.IsStrIter I "str_ascii_iterator" x t i) where
  frame := (Walks.strAscii (prog := prog) (w := w) hh I x t).frame
  item := fun i s Q E hi st hn hQ => by
    refine wpAny_pyNext_ascii_item st (c := x.cps[i]) (by simp [hi]) fun h' hit' hs' => ?_
    exact hQ _ h' (s.toks + 1) ⟨_, _, by simp [hi], rfl, hn, Nat.lt_succ_self _⟩ hit' fun b o hb e => hs'.extBut b o (fun h => hb (by simp [h])) e
  done := (Walks.strAscii hh I x t).done
  self := (Walks.strAscii hh I x t).self

/-- an element's end: its value, the objects that it made -/
inductive ElI (h_b : Heap) (C : Addr) (olds : List (Addr × Obj)) (El : List (Addr × Obj) → Nat → Prop) (g : Array GenState) (d : Drawn) (os : OsState) (s₄ : Shared) : Prop
  | mk (h' : Heap) (tk : Nat) (m' : Str → Option Value) (objs : List (Addr × Obj)) (e0 : s₄ = ⟨h', g, d, tk, os⟩) (e1 : Fr h_b C h' m') (e2 : News h_b C h' (objs ++ olds)) (e3 : ∀ p ∈ objs, ∀ q ∈ olds, p.1 ≠ q.1) (e4 : El objs tk) : ElI h_b C olds El g d os s₄
def ElEnd (h_b : Heap) (C : Addr) (olds : List (Addr × Obj)) (El : List (Addr × Obj) → Nat → Prop) (s s₄ : Shared) : Prop := ElI h_b C olds El s.gens s.drawn s.os s₄

inductive CompJ (h_b : Heap) (C D I : Addr) (n : Nat) (St : Nat → Heap → Prop) (El : Nat → Option Value → List (Addr × Obj) → Nat → Prop) (s : Shared) (k : Nat) (s' : Shared) : Prop
  | mk (h' : Heap) (tk : Nat) (m' : Str → Option Value) (rs : List (Option Value × List (Addr × Obj))) (e0 : s' = { s with heap := h', toks := tk }) (e1 : s.toks ≤ tk) (e2 : St rs.length h') (e3 : h'.PlainList D (rs.filterMap (·.1)).toArray) (e4 : Fr h_b C h' m')
    (e5 : News h_b C h' (rs.flatMap (·.2))) (e6 : ∀ p ∈ rs.flatMap (·.2), p.1 ≠ D ∧ p.1 ≠ I) (e7 : ∀ i r, rs[i]? = some r → ∃ k, k ≤ tk ∧ El i r.1 r.2 k) (e8 : rs.length ≤ n) (e9 : k = n + 1 - rs.length) : CompJ h_b C D I n St El s k s'
theorem compLoop_gen {R : Result → Shared → Prop} {elt target iter : Expr} {ifs : List Expr} {scope : Scope} {pos : Pos} {I D : Addr} {fp : List Addr} {n : Nat} {P : Nat → Value → Nat → Prop} {St : Nat → Heap → Prop} {cenv : Env} {h_b : Heap} {m : Str → Option Value}
    (W : WalksB prog w A I fp s.toks n P St) (hDC : D ≠ cenv.locals) (hDI : D ≠ I) (hIC : I ≠ cenv.locals) (hfp : ∀ b ∈ fp, b = I ∨ ∃ o, h_b.get? b = some o) (hDb : h_b.get? D = none) (hIb : h_b.get? I = none) (hsz : n ≤ sizeLine)
    (hlive : ∀ i h, St i h → ∃ o, h.get? I = some o)
    (hst : St 0 s.heap) (hacc : s.heap.PlainList D #[]) (F : Fr h_b cenv.locals s.heap m) (El : Nat → Option Value → List (Addr × Obj) → Nat → Prop)
    (hlet : ∀ v, letOwnedTupleGo target (.ref I) v = pure () ∨ ∀ i (s' : Shared) (Q' : Unit → Shared → Prop), St i s'.heap → Q' () s' → wpAny (model prog w) A (letOwnedTupleGo target (.ref I) v) Q' NoE s')
    (turn : ∀ i v h tk m₁ olds, i < n → P i v tk → s.toks ≤ tk → Fr h_b cenv.locals h m₁ → News h_b cenv.locals h olds →
      wpAny (model prog w) A (assign target cenv v) (fun _ s₂ =>
        wpAny (model prog w) A (forIn ifs true fun c r => if r = true then do let ok ← isTrue c cenv (eval c cenv); pure (ForInStep.yield ok) else pure (ForInStep.yield r)) (fun ok s₃ =>
          if ok = true then wpAny (model prog w) A (eval elt cenv) (fun y s₄ => ElEnd h_b cenv.locals olds (El i (some y)) s s₄) NoE s₃
          else ElEnd h_b cenv.locals olds (El i none) s s₃) NoE s₂) NoE { s with heap := h, toks := tk })
    (hR : ∀ h' tk m' (rs : List (Option Value × List (Addr × Obj))), s.toks ≤ tk → rs.length = n → (∀ i r, rs[i]? = some r → ∃ k, k ≤ tk ∧ El i r.1 r.2 k) → h'.PlainList D (rs.filterMap (·.1)).toArray →
      Fr h_b cenv.locals h' m' → News h_b cenv.locals h' (rs.flatMap (·.2)) → R (.ok .next) { s with heap := h', toks := tk }) :
    codeAny (model prog w) A (.compLoop (.ListComp elt [⟨target, iter, ifs, 0⟩] scope pos) 0 (.ref I) (.ref D) cenv) R s := by
  refine codeAny_loop rfl
    (CompJ h_b cenv.locals D I n St El s) ?_ (n + 1)
    ⟨s.heap, s.toks, m, [], rfl, Nat.le_refl _, hst, hacc, F, News.nil, (fun p hp => by simp at hp), (fun i r hr => by simp at hr), Nat.zero_le _, rfl⟩
  rintro k s' ⟨h', tk, m', rs, rfl, htk, hst', hacc', F', N', hoff, hEl, hlen, rfl⟩
  show wpAny _ A ((compTurn (.ListComp elt [⟨target, iter, ifs, 0⟩] scope pos) 0 (.ref I) (.ref D) cenv).onRaise (fun x => do noteFrame x cenv; theTreesLotGoes x)) _ _ _
  refine wpAny_noted ?_
  rw [compTurn_list]
  refine wpAny_bind (wpAny_standAt (wpAny_bind ?_))
  have next : ∀ h₁ : Heap, (∀ b o, b ∉ [I] → h'.get? b = some o → h₁.get? b = some o) → Fr h_b cenv.locals h₁ m' := fun h₁ hk₁ =>
    ⟨F'.ns.at' fun o e => hk₁ _ o (by simpa using Ne.symm hIC) e, fun b o e => hk₁ b o (by simp only [List.mem_singleton]; rintro rfl; rw [hIb] at e; cases e) (F'.keep b o e), F'.above⟩
  by_cases hlt : rs.length < n
  · refine wpAny_with_toks (n := tk) (Nat.le_refl _) (W.item rs.length _ _ _ hlt hst' htk fun v h₁ tk₁ hP hst₁ hk₁ htk₁' => ?_)
    have htk₁'' : tk ≤ tk₁ := htk₁'
    have htk₁ : s.toks ≤ tk₁ := Nat.le_trans htk htk₁''
    have F₁ := next h₁ hk₁
    dsimp only
    refine wpAny_bind ?_
    have body : wpAny (model prog w) A (assign target cenv v) (fun _ s₂ =>
        wpAny (model prog w) A (forIn ifs true fun c r => if r = true then do let ok ← isTrue c cenv (eval c cenv); pure (ForInStep.yield ok) else pure (ForInStep.yield r)) (fun ok s₃ =>
          if ok = true then wpAny (model prog w) A (eval elt cenv) (fun y s₄ => ElEnd h_b cenv.locals (restOf h_b h₁ cenv.locals) (El rs.length (some y)) s s₄) NoE s₃
          else ElEnd h_b cenv.locals (restOf h_b h₁ cenv.locals) (El rs.length none) s s₃) NoE s₂) NoE { s with heap := h₁, toks := tk₁ } :=
      turn rs.length v h₁ tk₁ m' _ hlt hP htk₁ F₁ news_restOf
    obtain ⟨oI, hoI⟩ := hlive _ _ hst₁
    have hDh₁ : h₁.PlainList D (rs.filterMap (·.1)).toArray := hacc'.at fun o e => hk₁ _ o (by simpa using hDI) e
    have fin : ∀ (r : Option Value) (objs : List (Addr × Obj)) (h₅ : Heap) (tk₅ : Nat) (m₅ : Str → Option Value), tk₁ ≤ tk₅ → Fr h_b cenv.locals h₅ m₅ → (∀ b o, b ≠ cenv.locals → b ≠ D → h₁.get? b = some o → h₅.get? b = some o) →
        News h_b cenv.locals h₅ objs → (∀ p ∈ objs, p.1 ≠ D ∧ p.1 ≠ I) → El rs.length r objs tk₅ → h₅.PlainList D ((rs ++ [(r, objs)]).filterMap (·.1)).toArray →
        ∃ k', k' < n + 1 - rs.length ∧ CompJ h_b cenv.locals D I n St El s k' { s with heap := h₅, toks := tk₅ } := by
      intro r objs h₅ tk₅ m₅ htk₅ F₅ hk₅ N₅ ho₅ hE hD₅
      refine ⟨n + 1 - (rs.length + 1), by omega, h₅, tk₅, m₅, rs ++ [(r, objs)], rfl, Nat.le_trans htk₁ htk₅, ?_, hD₅, F₅, ?_, ?_, ?_, ?_, ?_⟩
      · rw [List.length_append, List.length_singleton]
        refine W.frame _ _ _ hst₁ fun b hb o e => hk₅ b o ?_ ?_ e
        · rintro rfl
          rcases hfp _ hb with e' | ⟨o', e'⟩
          · exact hIC e'.symm
          · exact absurd (Nat.lt_of_lt_of_le (Heap.lt_size e') F.above) (Nat.lt_irrefl _)
        · rintro rfl
          rcases hfp _ hb with e' | ⟨o', e'⟩
          · exact hDI e'
          · rw [hDb] at e'; cases e'
      · rw [List.flatMap_append]
        intro p hp
        rcases List.mem_append.mp hp with hp | hp
        · have h1 := N' p hp
          exact ⟨hk₅ _ _ h1.2.1 (hoff p hp).1 (hk₁ _ _ (by simpa using (hoff p hp).2) h1.1), h1.2⟩
        · exact N₅ p (by simpa using hp)
      · rw [List.flatMap_append]
        intro p hp
        rcases List.mem_append.mp hp with hp | hp
        · exact hoff p hp
        · exact ho₅ p (by simpa using hp)
      · intro i r' hr'
        rcases Nat.lt_trichotomy i rs.length with h | h | h
        · obtain ⟨k, hk, e⟩ := hEl i r' (by rwa [List.getElem?_append_left h] at hr')
          exact ⟨k, Nat.le_trans hk (Nat.le_trans htk₁'' htk₅), e⟩
        · subst h; simp at hr'; subst hr'; exact ⟨tk₅, Nat.le_refl _, hE⟩
        · have hnone : (rs ++ [(r, objs)])[i]? = none := List.getElem?_eq_none (by rw [List.length_append, List.length_singleton]; omega)
          rw [hnone] at hr'; cases hr'
      · rw [List.length_append, List.length_singleton]; exact hlt
      · rw [List.length_append, List.length_singleton]
    have hDr : ∀ o, h₁.get? D = some o → (D, o) ∈ restOf h_b h₁ cenv.locals := fun o ho => mem_restOf hDC hDb ho
    have hIr : (I, oI) ∈ restOf h_b h₁ cenv.locals := mem_restOf hIC hIb hoI
    have go : wpAny (model prog w) A (letOwnedTupleGo target (.ref I) v) (fun _ s₂ => s₂ = { s with heap := h₁, toks := tk₁ }) NoE { s with heap := h₁, toks := tk₁ } := by
      rcases hlet v with e | e
      · rw [e]; exact wpAny_pure rfl
      · exact e _ _ _ hst₁ rfl
    refine noE_mono (wpAny_mono go (fun _ s₂ e₂ => ?_) fun _ _ x => x)
    subst e₂
    refine wpAny_bind (noE_mono (wpAny_mono (wpAny_toks_of (n := tk₁) (Nat.le_refl _) body) (fun _ s₂ h₂ => wpAny_bind (noE_mono (wpAny_mono (wpAny_toks_of h₂.1 h₂.2) (fun ok s₃ h₃ => ?_) fun _ _ x => x.2))) fun _ _ x => x.2))
    obtain ⟨htk₃, h₃⟩ := h₃
    cases ok with
    | false =>
      simp only [Bool.false_eq_true, if_false] at h₃ ⊢
      obtain ⟨h₅, tk₅, m₅, objs, rfl, F₅, N₅, hd₅, hE⟩ := h₃
      have htk₅ := htk₃
      obtain ⟨nD, hD⟩ := hDh₁
      refine wpAny_pure ⟨rfl, fin none objs h₅ tk₅ m₅ htk₅ F₅ (fun b o hC _ e => stays_rest F₁ F₅ (fun p hp => N₅ p (List.mem_append_right _ hp)) hC e) (fun p hp => N₅ p (List.mem_append_left _ hp)) (fun p hp => ⟨hd₅ p hp _ (hDr _ hD), hd₅ p hp _ hIr⟩) hE ⟨nD, ?_⟩⟩
      have := stays_rest F₁ F₅ (fun p hp => N₅ p (List.mem_append_right _ hp)) hDC hD
      simpa using this
    | true =>
      simp only [if_true] at h₃ ⊢
      refine wpAny_bind (wpAny_bind (noE_mono (wpAny_mono (wpAny_toks_of htk₃ h₃) (fun y s₄ h₄ => ?_) fun _ _ x => x.2)))
      obtain ⟨htk₅, h₅, tk₅, m₅, objs, rfl, F₅, N₅, hd₅, hE⟩ := h₄
      obtain ⟨nD, hD⟩ := hDh₁
      have hD₅ : h₅.PlainList D (rs.filterMap (·.1)).toArray := ⟨nD, stays_rest F₁ F₅ (fun p hp => N₅ p (List.mem_append_right _ hp)) hDC hD⟩
      have hfl : (rs.filterMap (·.1)).toArray.size ≤ sizeLine := by
        have h1 : (rs.filterMap (·.1)).length ≤ rs.length := List.length_filterMap_le _ _
        rw [List.size_toArray]; omega
      refine wpAny_bind (wpAny_list_append_plain (hsz := hfl) hD₅ fun h₆ hl₆ hs₆ => ?_)
      refine wpAny_pure (wpAny_pure ⟨rfl, fin (some y) objs h₆ tk₅ m₅ htk₅ ?_ (fun b o hC hD' e => hs₆.extBut b o hD' (stays_rest F₁ F₅ (fun p hp => N₅ p (List.mem_append_right _ hp)) hC e)) ?_ (fun p hp => ⟨hd₅ p hp _ (hDr _ hD), hd₅ p hp _ hIr⟩) hE ?_⟩)
      · exact ⟨F₅.ns.sameBut hs₆ (Ne.symm hDC), fun b o e => hs₆.extBut b o (by rintro rfl; rw [hDb] at e; cases e) (F₅.keep b o e), F₅.above⟩
      · intro p hp
        have h1 := N₅ p (List.mem_append_left _ hp)
        exact ⟨hs₆.extBut _ _ (hd₅ p hp _ (hDr _ hD)) h1.1, h1.2⟩
      · simpa using hl₆
  · have hin : rs.length = n := by omega
    refine wpAny_with_toks (n := tk) (Nat.le_refl _) (W.done _ _ _ (hin ▸ hst') fun h₁ tk₁ hk₁ htk₁ => wpAny_pure ?_)
    exact hR h₁ tk₁ m' rs (Nat.le_trans htk htk₁) hin (fun i r hr => let ⟨k, hk, e⟩ := hEl i r hr; ⟨k, Nat.le_trans hk htk₁, e⟩) (hacc'.at fun o e => hk₁ _ o (by simpa using hDI) e) (next h₁ hk₁) fun p hp => ⟨hk₁ _ _ (by simpa using (hoff p hp).2) (N' p hp).1, (N' p hp).2⟩

theorem comp_block {elt target iter : Expr} {ifs : List Expr} {scope : Scope} {cl : List (Str × Addr)} {pos : Pos} {s₂ : Shared} {I : Addr} {fp : List Addr} {n : Nat} {P : Nat → Value → Nat → Prop} {St : Nat → Heap → Prop} {h_b : Heap}
    {RR : Value → Addr → Result → Shared → Prop} (W : WalksB prog w A I fp s₂.toks n P St) (hsz : n ≤ sizeLine) (hcell : ∀ y ∈ scope.names, y.2 ≠ .cell) (hkind : scope.kind = .function)
    (hfp : ∀ b ∈ fp, b = I ∨ ∃ o, h_b.get? b = some o) (hI : I < s₂.heap.objs.size) (hIb : h_b.get? I = none) (hlive : ∀ i h, St i h → ∃ o, h.get? I = some o)
    (hst : St 0 s₂.heap) (hb : Stays h_b s₂.heap) (hbs : h_b.objs.size ≤ s₂.heap.objs.size) (El : Nat → Option Value → List (Addr × Obj) → Nat → Prop)
    (hlet : ∀ v, letOwnedTupleGo target (.ref I) v = pure () ∨ ∀ i (s' : Shared) (Q' : Unit → Shared → Prop), St i s'.heap → Q' () s' → wpAny (model prog w) A (letOwnedTupleGo target (.ref I) v) Q' NoE s')
    (turn : ∀ C i v h tk m₁ olds, i < n → P i v tk → s₂.toks ≤ tk → Fr h_b C h m₁ → News h_b C h olds →
      wpAny (model prog w) A (assign target (compEnvC scope cl C env) v) (fun _ s₃ =>
        wpAny (model prog w) A (forIn ifs true fun c r => if r = true then do let ok ← isTrue c (compEnvC scope cl C env) (eval c (compEnvC scope cl C env)); pure (ForInStep.yield ok) else pure (ForInStep.yield r)) (fun ok s₄ =>
          if ok = true then wpAny (model prog w) A (eval elt (compEnvC scope cl C env)) (fun y s₅ => ElEnd h_b C olds (El i (some y)) s₂ s₅) NoE s₄
          else ElEnd h_b C olds (El i none) s₂ s₄) NoE s₃) NoE { s₂ with heap := h, toks := tk })
    (hRR : ∀ D C h' tk m' (rs : List (Option Value × List (Addr × Obj))), h_b.objs.size ≤ D → h_b.objs.size ≤ C → D ≠ C → s₂.toks ≤ tk → rs.length = n → (∀ i r, rs[i]? = some r → ∃ k, k ≤ tk ∧ El i r.1 r.2 k) → h'.PlainList D (rs.filterMap (·.1)).toArray →
      Fr h_b C h' m' → News h_b C h' (rs.flatMap (·.2)) → RR (.ref D) C (.ok .next) { s₂ with heap := h', toks := tk }) :
    wpAny (model prog w) A (newList []) (fun acc s₃ => wpAny (model prog w) A (newFunctionEnv scope env.globals cl [] env.qual none .none (some env)) (fun cenv s₄ =>
      codeAny (model prog w) A (.compStart (.ListComp elt [⟨target, iter, ifs, 0⟩] scope pos) 0 (.ref I) acc { cenv with scope := relabel scope env }) (RR acc cenv.locals) s₄) NoE s₃) NoE s₂ := by
  refine wpAny_newObj_type (wpAny_newFunctionEnv hcell (by intro y hy; simp at hy) (fun h₁ hns₁ hsb₁ => ?_) hkind)
  dsimp only at hns₁ hsb₁ ⊢
  generalize hH2 : s₂.heap.push { cls := .type "list", dict := none, data := .seq ([] : List Value).toArray } = H2 at hns₁ hsb₁ ⊢
  have hC : H2.objs.size = s₂.heap.objs.size + 1 := by rw [← hH2, Heap.size_push]
  have hDC : s₂.heap.objs.size ≠ H2.objs.size := by rw [hC]; exact Nat.ne_of_lt (Nat.lt_succ_self _)
  have old : ∀ b o, s₂.heap.get? b = some o → h₁.get? b = some o := fun b o e => hsb₁.extBut b o (by rw [hC]; have := Heap.lt_size e; exact Nat.ne_of_lt (Nat.lt_succ_of_lt this)) (Heap.get?_push_of_some _ (hH2 ▸ Heap.get?_push_of_some _ e))
  have hacc : h₁.PlainList s₂.heap.objs.size #[] := ⟨_, hsb₁.extBut _ _ hDC (Heap.get?_push_of_some _ (hH2 ▸ Heap.get?_push_size _ rfl))⟩
  have hst₁ : St 0 h₁ := W.frame _ _ _ hst fun b _ o e => old b o e
  have hCle : h_b.objs.size ≤ H2.objs.size := by rw [hC]; exact Nat.le_succ_of_le hbs
  have F₁ : Fr h_b H2.objs.size h₁ (fun x => ([] : List (Str × Value)).reverse.lookup x) := ⟨hns₁, fun b o e => old b o (hb b o e), hCle⟩
  have hDb : h_b.get? s₂.heap.objs.size = none := by
    cases e : h_b.get? s₂.heap.objs.size with
    | none => rfl
    | some o' => exact absurd (Heap.lt_size e) (Nat.not_lt.mpr hbs)
  have loop : ∀ s₃ : Shared, s₃ = { s₂ with heap := h₁, toks := s₂.toks + ([] : List (Str × Value)).length } →
      codeAny (model prog w) A (.compLoop (.ListComp elt [⟨target, iter, ifs, 0⟩] scope pos) 0 (.ref I) (.ref s₂.heap.objs.size) (compEnvC scope cl H2.objs.size env))
        (RR (.ref s₂.heap.objs.size) H2.objs.size) s₃ := by
    rintro s₃ rfl
    refine compLoop_gen (cenv := compEnvC scope cl H2.objs.size env) W hDC (Ne.symm (Nat.ne_of_lt hI)) (by show I ≠ H2.objs.size; rw [hC]; exact Nat.ne_of_lt (Nat.lt_succ_of_lt hI)) hfp hDb hIb hsz hlive hst₁ hacc F₁ El hlet ?_ ?_
    · intro i v h tk m₁ olds hi hP htk F N
      exact turn H2.objs.size i v h tk m₁ olds hi hP htk F N
    · intro h' tk m' rs htk hlen hEl hD F N
      exact hRR _ _ h' tk m' rs hbs hCle hDC htk hlen hEl hD F N
  exact codeAny_compStart_list (loop _ rfl) (W.self 0 _ _ _ hst₁ (loop _ rfl))

/-- a list comprehension, behind its iterator: h_b is the ground, all that stood ahead of the iterator -/
inductive CompAt (prog : Program) (w : World) (A : Around) (env : Env) (scope : Scope) (cl : List (Str × Addr)) (target : Expr) (ifs : List Expr) (elt : Expr) (h_b : Heap)
    (Fin : Nat → (Nat → Option Value → List (Addr × Obj) → Nat → Prop) → Shared → Prop) (it : Value) (s₂ : Shared) : Prop
  | mk (I : Addr) (fp : List Addr) (n : Nat) (P : Nat → Value → Nat → Prop) (St : Nat → Heap → Prop) (El : Nat → Option Value → List (Addr × Obj) → Nat → Prop) (e0 : it = .ref I) (e1 : WalksB prog w A I fp s₂.toks n P St) (e2 : n ≤ sizeLine) (e3 : (∀ b ∈ fp, b = I ∨ ∃ o, h_b.get? b = some o)) (e4 : I < s₂.heap.objs.size) (e5 : h_b.get? I = none) (e6 : (∀ i h, St i h → ∃ o, h.get? I = some o)) (e7 : St 0 s₂.heap) (e8 : Stays h_b s₂.heap) (e9 : h_b.objs.size ≤ s₂.heap.objs.size) (e10 : (∀ v, letOwnedTupleGo target (.ref I) v = pure () ∨ ∀ i (s' : Shared) (Q' : Unit → Shared → Prop), St i s'.heap → Q' () s' → wpAny (model prog w) A (letOwnedTupleGo target (.ref I) v) Q' NoE s')) (e11 : (∀ C i v h tk m₁ olds, i < n → P i v tk → s₂.toks ≤ tk → Fr h_b C h m₁ → News h_b C h olds →
      wpAny (model prog w) A (assign target (compEnvC scope cl C env) v) (fun _ s₃ =>
        wpAny (model prog w) A (forIn ifs true fun c r => if r = true then do let ok ← isTrue c (compEnvC scope cl C env) (eval c (compEnvC scope cl C env)); pure (ForInStep.yield ok) else pure (ForInStep.yield r)) (fun ok s₄ =>
          if ok = true then wpAny (model prog w) A (eval elt (compEnvC scope cl C env)) (fun y s₅ => ElEnd h_b C olds (El i (some y)) s₂ s₅) NoE s₄
          else ElEnd h_b C olds (El i none) s₂ s₄) NoE s₃) NoE { s₂ with heap := h, toks := tk })) (e12 : Fin n El s₂) : CompAt prog w A env scope cl target ifs elt h_b Fin it s₂

/-- what is known behind it -/
abbrev CompFin (h_b : Heap) (Q : Value → Shared → Prop) (n : Nat) (El : Nat → Option Value → List (Addr × Obj) → Nat → Prop) (s₂ : Shared) : Prop :=
  ∀ D h' tk (rs : List (Option Value × List (Addr × Obj))), h_b.objs.size ≤ D → s₂.toks ≤ tk → rs.length = n → (∀ i r, rs[i]? = some r → ∃ k, k ≤ tk ∧ El i r.1 r.2 k) → h'.PlainList D (rs.filterMap (·.1)).toArray →
    Stays h_b h' → (∀ p ∈ rs.flatMap (·.2), h'.get? p.1 = some p.2 ∧ h_b.get? p.1 = none) → Q (.ref D) { s₂ with heap := h', toks := tk }

theorem comp_eval {elt target iter : Expr} {ifs : List Expr} {scope : Scope} {cl : List (Str × Addr)} {pos : Pos} {Q : Value → Shared → Prop}
    (hclos : closureFor scope env = pure cl) (hcell : ∀ y ∈ scope.names, y.2 ≠ .cell) (hkind : scope.kind = .function) (hnames : ∀ y ∈ scope.names, y.2 = .local → scope.names.lookup y.1 = some .local)
    (h : wpAny (model prog w) A (eval iter env) (fun xv s₁ => wpAny (model prog w) A (pyIter xv) (fun it s₂ => CompAt prog w A env scope cl target ifs elt s₁.heap (CompFin s₁.heap Q) it s₂) NoE s₁) NoE s)
    (hs : ∀ x, foldedSetIterable iter env x = pure x := by intro _; rfl) :
    wpAny (model prog w) A (eval (.ListComp elt [⟨target, iter, ifs, 0⟩] scope pos) env) Q NoE s := by
  rw [eval_ListComp]
  refine wpAny_comprehension_free (use := none) rfl hs hclos hkind hnames (wpAny_mono h (fun xv s₁ h₁ => wpAny_mono h₁ (fun it s₂ h₂ => ?_) fun _ _ e => e) fun _ _ e => e)
  obtain ⟨I, fp, n, P, St, El, rfl, W, hsz, hfp, hI, hIb, hlive, hst, hb, hbs, hlet, turn, hQ⟩ := h₂
  refine comp_block (RR := fun acc C => compPost (model prog w) A NoE none Q acc C) W hsz hcell hkind hfp hI hIb hlive hst hb hbs El hlet turn ?_
  intro D C h' tk m' rs hD hC hDC htk hlen hEl hl F N
  refine ⟨m', F.ns, fun h'' hs'' => hQ D h'' tk rs hD htk hlen hEl ?_ ?_ ?_⟩
  · obtain ⟨k, hk⟩ := hl
    exact ⟨k, hs''.extBut _ _ hDC hk⟩
  · exact fun b o e => hs''.extBut b o (by rintro rfl; exact absurd (Heap.lt_size e) (Nat.not_lt.mpr hC)) (F.keep b o e)
  · exact fun p hp => ⟨hs''.extBut _ _ (N p hp).2.1 (N p hp).1, (N p hp).2.2⟩

theorem comp_assign {elt target iter : Expr} {ifs : List Expr} {scope : Scope} {cl : List (Str × Addr)} {pos spos py : Pos} {y : Str} {Q : Flow → Shared → Prop} {h₀ : Heap}
    (hsw : swapsWith (.ListComp elt [⟨target, iter, ifs, 0⟩] scope pos) (some (.Name y py)) spos.line env = pure true)
    (hclos : closureFor scope env = pure cl) (hcell : ∀ y ∈ scope.names, y.2 ≠ .cell) (hkind : scope.kind = .function) (hnames : ∀ y ∈ scope.names, y.2 = .local → scope.names.lookup y.1 = some .local)
    (hy : env.kindOf y = some .local) (hp : (env.scope.kind == .class || (env.scope.kind == .module && env.locals != env.globals)) = false)
    (h : wpAny (model prog w) A (eval iter env) (fun xv s₁ => ∃ m news, Fr h₀ env.locals s₁.heap m ∧ News h₀ env.locals s₁.heap news ∧ wpAny (model prog w) A (pyIter xv) (fun it s₂ => CompAt prog w A env scope cl target ifs elt s₁.heap
      (fun n El s₂ => ∀ D h' tk (rs : List (Option Value × List (Addr × Obj))) k, (∀ p ∈ news, p.1 < D) → (∀ p ∈ rs.flatMap (·.2), ∀ q ∈ news, p.1 ≠ q.1) → s₂.toks ≤ tk → rs.length = n → (∀ i r, rs[i]? = some r → ∃ k, k ≤ tk ∧ El i r.1 r.2 k) →
        Fr h₀ env.locals h' (fun z => if z = y then some (.ref D) else m z) → News h₀ env.locals h' ((D, listOf (rs.filterMap (·.1)).toArray k) :: (rs.flatMap (·.2) ++ news)) → Q .next { s₂ with heap := h', toks := tk }) it s₂) NoE s₁) NoE s)
    (hs : ∀ x, foldedSetIterable iter env x = pure x := by intro _; rfl) :
    wpAny (model prog w) A (exec (.Assign [.Name y py] (.ListComp elt [⟨target, iter, ifs, 0⟩] scope pos) spos) env) Q NoE s := by
  rw [exec_Assign_Name_used _ _ _ _ hsw]
  refine wpAny_bind (wpAny_standAt (wpAny_bind ?_))
  show wpAny _ A (do let _ ← comprehension (.ListComp elt [⟨target, iter, ifs, 0⟩] scope pos) scope env _ (newList []) false (eval iter env) (some (assign (.Name y py) env))) _ _ s
  refine wpAny_bind (wpAny_mono (wpAny_comprehension_free (use := some (assign (.Name y py) env)) (Q := fun _ s' => Q .next s') rfl hs hclos hkind hnames
    (wpAny_mono h (fun xv s₁ h₁ => ?_) fun _ _ e => e)) (fun _ s' hq => wpAny_pure (wpAny_pure hq)) fun _ _ e => e)
  obtain ⟨m, news, F₀, N₀, h₁⟩ := h₁
  refine wpAny_mono h₁ (fun it s₂ h₂ => ?_) fun _ _ e => e
  obtain ⟨I, fp, n, P, St, El, rfl, W, hsz, hfp, hI, hIb, hlive, hst, hb, hbs, hlet, turn, hQ⟩ := h₂
  refine comp_block (RR := fun acc C => compPost (model prog w) A NoE (some (assign (.Name y py) env)) (fun _ s' => Q .next s') acc C) W hsz hcell hkind hfp hI hIb hlive hst hb hbs El hlet turn ?_
  intro D C h' tk m' rs hD hC hDC htk hlen hEl hl F N
  have hLlt : env.locals < s₁.heap.objs.size := F₀.ns.lt
  have hLC : env.locals ≠ C := Nat.ne_of_lt (Nat.lt_of_lt_of_le hLlt hC)
  have hLD : env.locals ≠ D := Nat.ne_of_lt (Nat.lt_of_lt_of_le hLlt hD)
  have hk : Stays s₁.heap h' := F.keep
  show wpAny _ A (assign (.Name y py) env (.ref D)) _ _ _
  have F' := fr_stays F₀ hk
  have N' := news_stays N₀ hk
  refine wpAny_assign_Name (wpAny_storeName_local hy F'.ns (fun h₂ hn₂ hs₂ => ?_) hp)
  refine ⟨m', F.ns.sameBut hs₂ (Ne.symm hLC), fun h₃ hs₃ => ?_⟩
  obtain ⟨k, hk'⟩ := hl
  have lo : ∀ b o, h₀.get? b = some o → b < s₁.heap.objs.size := fun b o e => Heap.lt_size (F₀.keep b o e)
  have new : ∀ a, s₁.heap.get? a = none → h₀.get? a = none := fun a ha => by
    cases e : h₀.get? a with
    | none => rfl
    | some o => rw [F₀.keep a o e] at ha; cases ha
  have F₂ := F'.set hn₂ hs₂
  have F₃ : Fr h₀ env.locals h₃ (fun z => if z = y then some (.ref D) else m z) := ⟨F₂.ns.sameBut hs₃ hLC, fun b o e => hs₃.extBut b o (Nat.ne_of_lt (Nat.lt_of_lt_of_le (lo b o e) hC)) (F₂.keep b o e), F₂.above⟩
  refine hQ D h₃ _ rs k ?_ ?_ (Nat.le_succ_of_le htk) hlen (fun i r hr => let ⟨k, hk, e⟩ := hEl i r hr; ⟨k, Nat.le_succ_of_le hk, e⟩) F₃ ?_
  · exact fun p hp => Nat.lt_of_lt_of_le (Heap.lt_size (N₀ p hp).1) hD
  · intro p hp q hq e
    have h1 := (N p hp).2.2
    rw [e, (N₀ q hq).1] at h1; cases h1
  · intro p hp
    rcases List.mem_cons.mp hp with rfl | hp
    · refine ⟨hs₃.extBut _ _ hDC (hs₂.extBut _ _ (Ne.symm hLD) hk'), Ne.symm hLD, ?_⟩
      cases e : h₀.get? D with
      | none => rfl
      | some o => exact absurd (lo _ _ e) (Nat.not_lt.mpr hD)
    · rcases List.mem_append.mp hp with hp | hp
      · have h1 := N p hp
        have hpL : p.1 ≠ env.locals := fun e => by
          obtain ⟨oL, _, _, hL, _⟩ := F₀.ns
          rw [e, hL] at h1; cases h1.2.2
        exact ⟨hs₃.extBut _ _ h1.2.1 (hs₂.extBut _ _ hpL h1.1), hpL, new _ h1.2.2⟩
      · have h1 := N' p hp
        have hpC : p.1 ≠ C := Nat.ne_of_lt (Nat.lt_of_lt_of_le (Heap.lt_size (N₀ p hp).1) hC)
        exact ⟨hs₃.extBut _ _ hpC (hs₂.extBut _ _ h1.2.1 h1.1), h1.2⟩

section
variable {scope : Scope} {cl : List (Str × Addr)} {target : Expr} {ifs : List Expr} {elt : Expr} {Fin : Nat → (Nat → Option Value → List (Addr × Obj) → Nat → Prop) → Shared → Prop}

/-- an element's premise -/
abbrev ElOk (prog : Program) (w : World) (A : Around) (env : Env) (scope : Scope) (cl : List (Str × Addr)) (target : Expr) (ifs : List Expr) (elt : Expr) (h_b : Heap) (s₂ : Shared) (n : Nat) (P : Nat → Value → Nat → Prop)
    (El : Nat → Option Value → List (Addr × Obj) → Nat → Prop) : Prop :=
  ∀ C i v h tk m₁ olds, i < n → P i v tk → s₂.toks ≤ tk → Fr h_b C h m₁ → News h_b C h olds →
      wpAny (model prog w) A (assign target (compEnvC scope cl C env) v) (fun _ s₃ =>
        wpAny (model prog w) A (forIn ifs true fun c r => if r = true then do let ok ← isTrue c (compEnvC scope cl C env) (eval c (compEnvC scope cl C env)); pure (ForInStep.yield ok) else pure (ForInStep.yield r)) (fun ok s₄ =>
          if ok = true then wpAny (model prog w) A (eval elt (compEnvC scope cl C env)) (fun y s₅ => ElEnd h_b C olds (El i (some y)) s₂ s₅) NoE s₄
          else ElEnd h_b C olds (El i none) s₂ s₄) NoE s₃) NoE { s₂ with heap := h, toks := tk }

theorem push_stays (h : Heap) (o : Obj) : Stays h (h.push o) := fun _ _ e => Heap.get?_push_of_some _ e
theorem size_none (h : Heap) : h.get? h.objs.size = none := by
  cases e : h.get? h.objs.size with
  | none => rfl
  | some o => exact absurd (Heap.lt_size e) (Nat.lt_irrefl _)

theorem compi_list {l : Addr} {vs : Array Value} (El : Nat → Option Value → List (Addr × Obj) → Nat → Prop) (hh : A.handled = none) (hl : s.heap.IsList l vs) (hsz : vs.size ≤ sizeLine)
    (turn : ElOk prog w A env scope cl target ifs elt s.heap s vs.size (fun i v _ => vs[i]? = some v) El) (fin : ∀ h', Fin vs.size El { s with heap := h' }) :
    wpAny (model prog w) A (pyIter (.ref l)) (fun it s₂ => CompAt prog w A env scope cl target ifs elt s.heap Fin it s₂) NoE s := by
  obtain ⟨ol, hol, hol'⟩ := id hl
  have hne : l ≠ s.heap.objs.size := Nat.ne_of_lt (Heap.lt_size hol)
  refine wpAny_pyIter_list hl ⟨_, _, _, _, _, El, rfl, walks_toB (Walks.list hh s.heap.objs.size l hne vs), hsz, ?_, by rw [Heap.size_push]; exact Nat.lt_succ_self _, size_none _, ?_, ⟨⟨_, Heap.get?_push_size _ rfl, rfl, rfl⟩, ⟨ol, Heap.get?_push_of_some _ hol, hol'⟩⟩, push_stays _ _, by rw [Heap.size_push]; exact Nat.le_succ _, ?_, ?_, fin _⟩
  · intro b hb
    rcases List.mem_cons.mp hb with e | e
    · exact .inl e
    · exact .inr ⟨ol, (List.mem_singleton.mp e) ▸ hol⟩
  · exact fun i h st => let ⟨o, ho, _⟩ := st.1; ⟨o, ho⟩
  · exact fun v => .inr fun i s' Q' st hQ => letGo_listiter st.1 hQ
  · exact fun C i v h tk m₁ olds a b c d e => turn C i v h tk m₁ olds a b c d e

theorem compi_range {r : Addr} {a b c : Int} {t₀ u₀ v₀ : Tok} {n : Nat} {x : Str} {px : Pos} (El : Nat → Option Value → List (Addr × Obj) → Nat → Prop) (hh : A.handled = none) (hr : IsRange s.heap r a b c t₀ u₀ v₀)
    (hsmall : Builtin.Range.small a b c = true) (hn : Builtin.Range.rangeSize a b c = (n : Int)) (hsz : n ≤ sizeLine)
    (turn : ElOk prog w A env scope cl (.Name x px) ifs elt s.heap s n (fun i v _ => ∃ t, v = .int (a + i * c) t) El) (fin : ∀ h', Fin n El { s with heap := h' }) :
    wpAny (model prog w) A (pyIter (.ref r)) (fun it s₂ => CompAt prog w A env scope cl (.Name x px) ifs elt s.heap Fin it s₂) NoE s := by
  refine wpAny_pyIter_range hr hsmall ⟨_, _, _, _, _, El, rfl, walks_toB (Walks.range hh s.heap.objs.size a c n), hsz, ?_, by rw [Heap.size_push]; exact Nat.lt_succ_self _, size_none _, ?_, ?_, push_stays _ _, by rw [Heap.size_push]; exact Nat.le_succ _, ?_, ?_, fin _⟩
  · exact fun b hb => .inl (List.mem_singleton.mp hb)
  · exact fun i h st => ⟨_, st⟩
  · show IsRangeIter _ _ _ _ _
    rw [hn]; simpa using Heap.get?_push_size _ rfl
  · exact fun v => .inl rfl
  · exact fun C i v h tk m₁ olds a b c d e => turn C i v h tk m₁ olds a b c d e

theorem compi_str {x : Str} {t : Tok} {y : Str} {px : Pos} (El : Nat → Option Value → List (Addr × Obj) → Nat → Prop) (hh : A.handled = none) (ha : x.cps.all (· < 128) = true) (hsz : x.cps.size ≤ sizeLine)
    (turn : ElOk prog w A env scope cl (.Name y px) ifs elt s.heap s x.cps.size (SignB x s.toks) El) (fin : ∀ h', Fin x.cps.size El { s with heap := h' }) :
    wpAny (model prog w) A (pyIter (.str x t)) (fun it s₂ => CompAt prog w A env scope cl (.Name y px) ifs elt s.heap Fin it s₂) NoE s := by
  refine wpAny_pyIter_ascii ha ⟨_, _, _, _, _, El, rfl, walksB_str hh s.heap.objs.size s.toks x t, hsz, ?_, by rw [Heap.size_push]; exact Nat.lt_succ_self _, size_none _, ?_, ⟨_, Heap.get?_push_size _ rfl, rfl, rfl⟩, push_stays _ _, by rw [Heap.size_push]; exact Nat.le_succ _, ?_, ?_, fin _⟩
  · exact fun b hb => .inl (List.mem_singleton.mp hb)
  · exact fun i h st => let ⟨o, ho, _⟩ := st; ⟨o, ho⟩
  · exact fun v => .inl rfl
  · exact fun C i v h tk m₁ olds a b c d e => turn C i v h tk m₁ olds a b c d e

theorem compi_bytes {x : Array UInt8} {t : Tok} {y : Str} {px : Pos} (El : Nat → Option Value → List (Addr × Obj) → Nat → Prop) (hh : A.handled = none) (hsz : x.size ≤ sizeLine)
    (turn : ElOk prog w A env scope cl (.Name y px) ifs elt s.heap s x.size (fun i v _ => ∃ n u, x[i]? = some n ∧ v = .int n.toNat u) El) (fin : ∀ h', Fin x.size El { s with heap := h' }) :
    wpAny (model prog w) A (pyIter (.bytes x t)) (fun it s₂ => CompAt prog w A env scope cl (.Name y px) ifs elt s.heap Fin it s₂) NoE s := by
  refine KBw.pyIter_bytes ⟨_, _, _, _, _, El, rfl, walks_toB (KBw.walks hh s.heap.objs.size x t), hsz, ?_, by rw [Heap.size_push]; exact Nat.lt_succ_self _, size_none _, ?_, ⟨_, Heap.get?_push_size _ rfl, rfl, rfl⟩, push_stays _ _, by rw [Heap.size_push]; exact Nat.le_succ _, ?_, ?_, fin _⟩
  · exact fun b hb => .inl (List.mem_singleton.mp hb)
  · exact fun i h st => let ⟨o, ho, _⟩ := st; ⟨o, ho⟩
  · exact fun v => .inl rfl
  · exact fun C i v h tk m₁ olds a b c d e => turn C i v h tk m₁ olds a b c d e
end
end
end Part_g1

section Part_s1
/-- a slice's bound, clipped -/
def clipI (n : Nat) (v : Int) : Nat := (max 0 (min (if v < 0 then v + n else v) n)).toNat
def loI (n : Nat) : Option Int → Nat
  | none => 0
  | some v => clipI n v
def hiI (n : Nat) : Option Int → Nat
  | none => n
  | some v => clipI n v
section
open Builtin Builtin.Str
theorem clipI_le (n : Nat) (v : Int) : clipI n v ≤ n := by unfold clipI; omega
theorem hiI_le (n : Nat) (u : Option Int) : hiI n u ≤ n := by cases u <;> simp [hiI, clipI_le]
theorem range_one (a b : Nat) : sliceRange (a : Int) (b : Int) 1 = (List.range (b - a)).map (fun k => a + k) := by
  unfold sliceRange
  dsimp only
  have h1 : (if (1 : Int) > 0 then if (a : Int) < b then ((b : Int) - a + 1 - 1) / 1 else 0 else if (a : Int) > b then ((a : Int) - b - 1 - 1) / (-1) else 0).toNat = b - a := by
    rw [if_pos (by decide)]
    split
    · rw [Int.ediv_one]; omega
    · omega
  rw [h1]
  refine List.map_congr_left fun k _ => ?_
  omega
theorem idx_eq (l u : Option Int) (n : Nat) : strSliceIndices l u 1 n = (List.range (hiI n u - loI n l)).map (fun k => loI n l + k) := by
  rw [← range_one]
  cases l <;> cases u <;> simp [strSliceIndices, loI, hiI, clipI]
theorem slice_list (x : Str) (l u : Option Int) : (Txt.slice x l u).cps.toList = (x.cps.toList.drop (loI x.length l)).take (hiI x.length u - loI x.length l) := by
  have hp := StrLaws.picks x.cps.toList (hiI x.length u - loI x.length l) (loI x.length l)
  have hle := hiI_le x.length u
  have hlen : x.cps.toList.length = x.length := by simp [Str.length]
  unfold Txt.slice
  rw [idx_eq]
  by_cases hz : hiI x.length u ≤ loI x.length l
  · have e0 : hiI x.length u - loI x.length l = 0 := by omega
    rw [e0]
    simp only [List.range_zero, List.map_nil, List.length_nil, List.filterMap_nil, List.take_zero]
    split
    · rename_i h
      have h0 : x.length = 0 := by
        have h2 : (0 == x.length) = true := (Bool.and_eq_true_iff.mp h).2
        have h3 := eq_of_beq h2
        omega
      exact List.eq_nil_of_length_eq_zero (by omega)
    · rfl
  · specialize hp (by omega)
    split
    · rename_i h
      have h0 : hiI x.length u - loI x.length l = x.length := by
        have h2 := eq_of_beq (Bool.and_eq_true_iff.mp h).2
        rw [List.length_map, List.length_range] at h2
        exact h2
      have h1 : loI x.length l = 0 := by omega
      rw [h0, h1, List.drop_zero, ← hlen, List.take_length]
    · have hf : (fun i : Nat => x.cps[i]?) = fun i : Nat => x.cps.toList[i]? := by funext i; simp
      show (List.filterMap (fun i : Nat => x.cps[i]?) _).toArray.toList = _
      rw [hf]
      simpa using hp
theorem slice_len_le (x : Str) (l u : Option Int) : (Txt.slice x l u).length ≤ x.length := Txt.slice_le x l u
theorem mem_slice {x : Str} {l u : Option Int} {c : Nat} (h : c ∈ (Txt.slice x l u).cps.toList) : c ∈ x.cps.toList := by
  rw [slice_list] at h
  exact List.mem_of_mem_drop (List.mem_of_mem_take h)
theorem str_ext {x y : Str} (h : x.cps.toList = y.cps.toList) : x = y := by
  cases x; cases y
  simp only [Str.mk.injEq]
  exact Array.toList_inj.mp h
theorem cps_add (x y : Str) : (x ++ y).cps.toList = x.cps.toList ++ y.cps.toList := by
  rw [Str.cps_append]; simp
theorem len_list (x : Str) : x.length = x.cps.toList.length := by simp [Str.length]
/-- an item in bounds -/
theorem item_list {x : Str} {i : Nat} {c : Nat} (h : x.cps.toList[i]? = some c) : (Txt.item x (i : Int)).cps.toList = [c] := by
  have hi : i < x.length := by rw [len_list]; exact (List.getElem?_eq_some_iff.mp h).1
  unfold Txt.item Txt.charAt
  rw [StrLaws.seqIndex_nonneg (by omega) (by omega)]
  have e : x.cps[i]? = some c := by simpa using h
  simp [e]
end
end Part_s1

section Part_pla
def signsS : Str := Str.ofString "ABCDEFGHIJKLMNOPQRSTUVWXYZabcdefghijklmnopqrstuvwxyz0123456789*!"
def signsL : List Nat := signsS.cps.toList
def okT (x : Str) : Prop := ∀ c ∈ x.cps.toList, c ∈ signsL
theorem signsL_eq : signsL = [65, 66, 67, 68, 69, 70, 71, 72, 73, 74, 75, 76, 77, 78, 79, 80, 81, 82, 83, 84, 85, 86, 87, 88, 89, 90, 97, 98, 99, 100, 101, 102, 103, 104, 105, 106, 107, 108, 109, 110, 111, 112, 113, 114, 115, 116, 117, 118, 119, 120, 121, 122, 48, 49, 50, 51, 52, 53, 54, 55, 56, 57, 42, 33] := by decide +kernel
def sg (k : Nat) : Nat := signsL.getD k 0
/-- the last four of a page -/
inductive Tail : List Nat → Prop
  | none : Tail []
  | duo (a b c : Nat) : a < 64 → b < 64 → c < 16 → Tail [sg a, sg b, sg (c * 4), 61]
  | lone (a b : Nat) : a < 64 → b < 4 → Tail [sg a, sg (b * 16), 61, 61]
structure GoodPage (page : Str) (cuts : List Int) : Prop where
  form : ∃ body tail, page.cps.toList = body ++ tail ∧ body.length % 4 = 0 ∧ (∀ c ∈ body, c ∈ signsL) ∧ Tail tail
  len : page.length ≤ 200
  pos : 1 ≤ page.length
  c : ∀ x ∈ cuts, 0 ≤ x ∧ x ≤ page.length
  cs : cuts.Pairwise (· ≤ ·)
  cl : cuts.length ≤ 10
end Part_pla

section Part_plb
def asInts (l : List Nat) : List Int := l.map (fun x : Nat => (x : Int))
/-- the place of a sign among the 65 -/
def ixL : List Nat := signsL ++ [61]
def ix (c : Nat) : Nat := ixL.idxOf c
def num (l : List Nat) : Nat := l.foldl (fun n c => 64 * n + ix c % 64) 0
def three (n : Nat) : List Nat := [n / 65536, n / 256 % 256, n % 256]
def octN (l : List Nat) : Nat → List Nat
  | 0 => []
  | k + 1 => octN l k ++ three (num ((l.drop (4 * k)).take 4))
def octs (l : List Nat) : List Nat := octN l (l.length / 4)
def dataOf (l : List Nat) : List Nat := (octs l).take ((octs l).length - l.count 61)
theorem octN_len (l : List Nat) : ∀ k, (octN l k).length = 3 * k
  | 0 => rfl
  | k + 1 => by rw [octN, List.length_append, octN_len l k]; simp [three]; omega
theorem num_snoc (l : List Nat) (c : Nat) : num (l ++ [c]) = 64 * num l + ix c % 64 := by simp [num]
theorem num_lt : ∀ (l : List Nat), num l < 64 ^ l.length := by
  intro l
  suffices h : ∀ (l : List Nat) (n k : Nat), n < 64 ^ k → l.foldl (fun n c => 64 * n + ix c % 64) n < 64 ^ (k + l.length) from by
    have := h l 0 0 (by decide)
    simpa [num] using this
  intro l
  induction l with
  | nil => intro n k h; simpa using h
  | cons c r ih =>
    intro n k h
    rw [List.foldl_cons, List.length_cons]
    have h1 : 64 * n + ix c % 64 < 64 ^ (k + 1) := by
      have := Nat.mod_lt (ix c) (y := 64) (by decide)
      rw [Nat.pow_succ]
      omega
    have := ih _ (k + 1) h1
    rwa [show k + (r.length + 1) = k + 1 + r.length by omega]
theorem three_lt {n : Nat} (h : n < 16777216) : ∀ x ∈ three n, x < 256 := by
  intro x hx
  simp only [three, List.mem_cons, List.not_mem_nil, or_false] at hx
  rcases hx with rfl | rfl | rfl <;> omega
theorem octN_lt (l : List Nat) : ∀ k, ∀ x ∈ octN l k, x < 256
  | 0, x, hx => nomatch hx
  | k + 1, x, hx => by
    rw [octN] at hx
    rcases List.mem_append.mp hx with hx | hx
    · exact octN_lt l k x hx
    · refine three_lt ?_ x hx
      have h1 := num_lt ((l.drop (4 * k)).take 4)
      have h2 : ((l.drop (4 * k)).take 4).length ≤ 4 := by rw [List.length_take]; omega
      have h3 : 64 ^ ((l.drop (4 * k)).take 4).length ≤ 64 ^ 4 := Nat.pow_le_pow_right (by decide) h2
      omega
theorem three_cast (n : Nat) : [(n : Int).fdiv 65536, ((n : Int).fdiv 256).fmod 256, (n : Int).fmod 256] = asInts (three n) := by
  have e1 : (n : Int).fdiv 65536 = ((n / 65536 : Nat) : Int) := by rw [Int.fdiv_eq_ediv_of_nonneg _ (by decide)]; rfl
  have e2 : (n : Int).fdiv 256 = ((n / 256 : Nat) : Int) := by rw [Int.fdiv_eq_ediv_of_nonneg _ (by decide)]; rfl
  have e3 : ∀ k : Nat, (k : Int).fmod 256 = ((k % 256 : Nat) : Int) := fun k => by rw [Int.fmod_eq_emod_of_nonneg _ (by decide)]; rfl
  simp only [asInts, three, List.map_cons, List.map_nil, e1, e2, e3]
end Part_plb

section Part_plc
/-- replacing, on lists: the pattern is not empty -/
def replL (p z : List Nat) : List Nat → List Nat
  | [] => []
  | c :: r => if p.isPrefixOf (c :: r) then z ++ replL p z (r.drop (p.length - 1)) else c :: replL p z r
termination_by l => l.length
decreasing_by
  · simp only [List.length_drop, List.length_cons]; omega
  · simp only [List.length_cons]; omega
theorem replL_nil (p z : List Nat) : replL p z [] = [] := by rw [replL]
theorem replL_hit {p z l : List Nat} (hp : p ≠ []) (h : p <+: l) : replL p z l = z ++ replL p z (l.drop p.length) := by
  cases l with
  | nil => exact absurd (List.prefix_nil.mp h) hp
  | cons c r =>
    rw [replL, if_pos (List.isPrefixOf_iff_prefix.mpr h)]
    congr 2
    cases p with
    | nil => exact absurd rfl hp
    | cons a q => simp
theorem replL_miss {p z : List Nat} {c : Nat} {r : List Nat} (h : ¬ p <+: c :: r) : replL p z (c :: r) = c :: replL p z r := by
  rw [replL, if_neg (fun e => h (List.isPrefixOf_iff_prefix.mp e))]
section
open Builtin Builtin.Str StrLaws
theorem at_iff {x y : Str} (hw : 1 ≤ y.length) (k : Nat) : At x y x.length k ↔ y.cps.toList <+: x.cps.toList.drop k := by
  unfold At
  rw [subAt_eq]
  constructor
  · rintro ⟨_, h2⟩
    have h3 := eq_of_beq h2
    rw [← h3]
    exact List.take_prefix _ _
  · intro h
    have h1 := h.length_le
    rw [List.length_drop, ← len_list, ← len_list] at h1
    refine ⟨by omega, ?_⟩
    have h2 := List.prefix_iff_eq_take.mp h
    rw [beq_iff_eq, len_list y]
    exact h2.symm
theorem repl_free {x y : Str} {z : List Nat} (hw : 1 ≤ y.length) : ∀ (n a : Nat), x.cps.toList.length - a = n → (∀ k, a ≤ k → ¬ At x y x.length k) → replL y.cps.toList z (x.cps.toList.drop a) = x.cps.toList.drop a
  | 0, a, hn, _ => by
    rw [List.drop_of_length_le (by omega), replL_nil]
  | n + 1, a, hn, hk => by
    have hlt : a < x.cps.toList.length := by omega
    rw [List.drop_eq_getElem_cons hlt, replL_miss, repl_free hw n (a + 1) (by omega) fun k h => hk k (by omega)]
    rw [← List.drop_eq_getElem_cons hlt]
    exact fun e => hk a (Nat.le_refl _) ((at_iff hw a).mpr e)
theorem repl_upto {x y : Str} {z : List Nat} (hw : 1 ≤ y.length) : ∀ (n a c : Nat), c - a = n → a ≤ c → At x y x.length c → (∀ k, a ≤ k → k < c → ¬ At x y x.length k) →
    replL y.cps.toList z (x.cps.toList.drop a) = (x.cps.toList.drop a).take (c - a) ++ z ++ replL y.cps.toList z (x.cps.toList.drop (c + y.length))
  | 0, a, c, hn, hac, hc, _ => by
    have e : a = c := by omega
    subst e
    have hne : y.cps.toList ≠ [] := fun e => by rw [len_list, e] at hw; simp at hw
    rw [replL_hit hne ((at_iff hw a).mp hc), List.drop_drop, Nat.sub_self, List.take_zero, List.nil_append, ← len_list]
  | n + 1, a, c, hn, hac, hc, hk => by
    have hcl := hc.1
    have hlt : a < x.cps.toList.length := by rw [← len_list]; omega
    have ih := repl_upto (z := z) hw n (a + 1) c (by omega) (by omega) hc fun k h1 h2 => hk k (by omega) h2
    rw [List.drop_eq_getElem_cons hlt, replL_miss, ih]
    · have e2 : c - a = (c - (a + 1)) + 1 := by omega
      rw [e2, List.take_succ_cons]; rfl
    · rw [← List.drop_eq_getElem_cons hlt]
      exact fun e => hk a (Nat.le_refl _) (by omega) ((at_iff hw a).mpr e)
theorem chain_repl {x y z : Str} (hw : 1 ≤ y.length) : ∀ (cuts : List Nat) (a f : Nat), ChainG x y x.length a cuts f → (∀ k, f ≤ k → ¬ At x y x.length k) → a ≤ x.length →
    (Str.join z (partsFrom x y.length a cuts)).cps.toList = replL y.cps.toList z.cps.toList (x.cps.toList.drop a)
  | [], a, f, h, hf, ha => by
    have e : f = a := h
    subst e
    rw [repl_free hw _ f rfl hf]
    show (strSub x f x.length).cps.toList = _
    rw [strSub_toList]
    exact List.take_of_length_le (by rw [List.length_drop, ← len_list]; omega)
  | c :: r, a, f, h, hf, ha => by
    obtain ⟨h1, h2, h3, h4⟩ := h
    have hcl := h2.1
    have ih := chain_repl (z := z) hw r (c + y.length) f h4 hf hcl
    obtain ⟨p, q, e⟩ := partsFrom_ne x y.length (c + y.length) r
    show (Str.join z (strSub x a c :: partsFrom x y.length (c + y.length) r)).cps.toList = _
    rw [e] at ih ⊢
    show (strSub x a c ++ z ++ Str.join z (p :: q)).cps.toList = _
    rw [cps_add, cps_add, ih, strSub_toList, repl_upto hw _ a c rfl h1 h2 h3]
theorem replace_list (x y z : Str) (hw : 1 ≤ y.length) : (Txt.replace x y z).cps.toList = replL y.cps.toList z.cps.toList x.cps.toList := by
  obtain ⟨f, hch, hf⟩ := occ_tight x y hw
  have key := chain_repl (z := z) hw _ 0 f hch hf (Nat.zero_le _)
  rw [List.drop_zero] at key
  have hy0 : (y.length == 0) = false := by
    cases e : y.length == 0 with
    | false => rfl
    | true => have := eq_of_beq e; omega
  unfold Txt.replace
  split
  · rename_i h
    rw [hy0, Bool.false_and, Bool.or_false] at h
    have h0 : occurrences x y 0 x.length (x.length + 1) = [] := List.isEmpty_iff.mp h
    rw [h0] at key
    rw [← key]
    show x.cps.toList = (strSub x 0 x.length).cps.toList
    rw [sub_whole]
  · rw [glued_eq_join, partsBetween_eq]
    exact key
theorem count_chain {x : Str} {c : Nat} : ∀ (cuts : List Nat) (a f : Nat), ChainG x ⟨#[c]⟩ x.length a cuts f → (∀ k, f ≤ k → ¬ At x ⟨#[c]⟩ x.length k) → (x.cps.toList.drop a).count c = cuts.length
  | [], a, f, h, hf => by
    have e : f = a := h
    subst e
    rw [List.length_nil]
    refine List.count_eq_zero.mpr ?_
    · intro hm
      obtain ⟨i, hi⟩ := List.getElem?_of_mem hm
      rw [List.getElem?_drop] at hi
      exact hf (f + i) (by omega) ((subAt_one x c (f + i)).mpr hi)
  | d :: r, a, f, h, hf => by
    obtain ⟨h1, h2, h3, h4⟩ := h
    have ih := count_chain r (d + 1) f h4 hf
    have hd := (subAt_one x c d).mp h2
    have hlt : d < x.cps.toList.length := (List.getElem?_eq_some_iff.mp hd).1
    have e : x.cps.toList.drop a = (x.cps.toList.drop a).take (d - a) ++ c :: x.cps.toList.drop (d + 1) := by
      have e1 : (x.cps.toList.drop a).drop (d - a) = c :: x.cps.toList.drop (d + 1) := by
        rw [List.drop_drop, show a + (d - a) = d by omega, List.drop_eq_getElem_cons hlt, (List.getElem?_eq_some_iff.mp hd).2]
      rw [← e1, List.take_append_drop]
    rw [e, List.count_append, List.count_cons_self, ih, List.length_cons]
    have hz : List.count c ((x.cps.toList.drop a).take (d - a)) = 0 := by
      rw [List.count_eq_zero]
      intro hm
      obtain ⟨i, hi⟩ := List.getElem?_of_mem hm
      have hil : i < d - a := by
        apply Nat.lt_of_not_le
        intro hle
        rw [List.getElem?_take, if_neg (by omega)] at hi
        cases hi
      rw [List.getElem?_take, if_pos hil, List.getElem?_drop] at hi
      exact h3 (a + i) (by omega) (by omega) ((subAt_one x c (a + i)).mpr hi)
    omega
theorem count_list (x : Str) (c : Nat) : Txt.count x ⟨#[c]⟩ = ((x.cps.toList.count c : Nat) : Int) := by
  obtain ⟨f, hch, hf⟩ := occ_tight x ⟨#[c]⟩ (Nat.le_refl 1)
  have := count_chain _ 0 f hch hf
  rw [List.drop_zero] at this
  unfold Txt.count
  rw [this]
end
end Part_plc

section Part_pld
/-- the standard signs -/
def b64L : List Nat := [65, 66, 67, 68, 69, 70, 71, 72, 73, 74, 75, 76, 77, 78, 79, 80, 81, 82, 83, 84, 85, 86, 87, 88, 89, 90, 97, 98, 99, 100, 101, 102, 103, 104, 105, 106, 107, 108, 109, 110, 111, 112, 113, 114, 115, 116, 117, 118, 119, 120, 121, 122, 48, 49, 50, 51, 52, 53, 54, 55, 56, 57, 43, 47]
def b64 (k : Nat) : Nat := b64L.getD k 0
/-- the inner loop -/
def emit (chr bits : Nat) (out : List Nat) : List Nat × Nat :=
  if 6 ≤ bits then emit chr (bits - 6) (out ++ [b64 ((chr >>> (bits - 6)) % 64)]) else (out, bits)
termination_by bits
structure Enc where
  out : List Nat
  bits : Nat
  chr : Nat
def encStep (e : Enc) (b : Nat) : Enc :=
  ⟨(emit ((e.chr * 256 + b) % 65536) (e.bits + 8) e.out).1, (emit ((e.chr * 256 + b) % 65536) (e.bits + 8) e.out).2, (e.chr * 256 + b) % 65536⟩
def encAll (l : List Nat) : Enc := l.foldl encStep ⟨[], 0, 0⟩
def encEnd (e : Enc) : List Nat :=
  if e.bits = 2 then e.out ++ [b64 (e.chr % 4 * 16), 61, 61] else if e.bits = 4 then e.out ++ [b64 (e.chr % 16 * 4), 61] else e.out
def encode (l : List Nat) : List Nat := encEnd (encAll l)
theorem encAll_snoc (l : List Nat) (b : Nat) : encAll (l ++ [b]) = encStep (encAll l) b := by simp [encAll]
theorem emit_bits (chr : Nat) : ∀ (bits : Nat) (out : List Nat), (emit chr bits out).2 < 6 := by
  intro bits
  induction bits using Nat.strongRecOn with
  | ind bits ih =>
    intro out
    rw [emit]
    split
    · exact ih _ (by omega) _
    · show bits < 6; omega
theorem emit_len (chr : Nat) : ∀ (bits : Nat) (out : List Nat), (emit chr bits out).1.length ≤ out.length + bits := by
  intro bits
  induction bits using Nat.strongRecOn with
  | ind bits ih =>
    intro out
    rw [emit]
    split
    · have := ih (bits - 6) (by omega) (out ++ [b64 ((chr >>> (bits - 6)) % 64)])
      rw [List.length_append, List.length_singleton] at this
      omega
    · exact Nat.le_add_right _ _
theorem encAll_ok : ∀ (l : List Nat), (encAll l).bits < 6 ∧ (encAll l).chr < 65536 ∧ (encAll l).out.length ≤ 14 * l.length := by
  suffices h : ∀ (l : List Nat) (e : Enc), e.bits < 6 → e.chr < 65536 → (l.foldl encStep e).bits < 6 ∧ (l.foldl encStep e).chr < 65536 ∧ (l.foldl encStep e).out.length ≤ e.out.length + 14 * l.length from fun l => by
    have := h l ⟨[], 0, 0⟩ (by decide) (by decide)
    simpa [encAll] using this
  intro l
  induction l with
  | nil => intro e h1 h2; exact ⟨h1, h2, Nat.le_add_right _ _⟩
  | cons b r ih =>
    intro e h1 h2
    have h3 := ih (encStep e b) (emit_bits _ _ _) (Nat.mod_lt _ (by decide))
    refine ⟨h3.1, h3.2.1, ?_⟩
    have h4 := h3.2.2
    have h5 : (encStep e b).out.length ≤ e.out.length + (e.bits + 8) := emit_len _ _ _
    rw [List.foldl_cons, List.length_cons]
    omega
theorem b64_lt (k : Nat) : b64 k < 256 := by
  unfold b64
  rw [List.getD_eq_getElem?_getD]
  cases h : b64L[k]? with
  | none => decide
  | some x =>
    have h1 := List.mem_of_getElem? h
    have h2 : ∀ x ∈ b64L, x < 256 := by decide
    exact h2 x h1
theorem emit_lt (chr : Nat) : ∀ (bits : Nat) (out : List Nat), (∀ x ∈ out, x < 256) → ∀ x ∈ (emit chr bits out).1, x < 256 := by
  intro bits
  induction bits using Nat.strongRecOn with
  | ind bits ih =>
    intro out h
    rw [emit]
    split
    · refine ih _ (by omega) _ fun x hx => ?_
      rcases List.mem_append.mp hx with hx | hx
      · exact h x hx
      · rw [List.mem_singleton.mp hx]; exact b64_lt _
    · exact h
theorem encAll_lt (l : List Nat) : ∀ x ∈ (encAll l).out, x < 256 := by
  suffices h : ∀ (l : List Nat) (e : Enc), (∀ x ∈ e.out, x < 256) → ∀ x ∈ (l.foldl encStep e).out, x < 256 from h l ⟨[], 0, 0⟩ (fun _ hx => nomatch hx)
  intro l
  induction l with
  | nil => intro e h; exact h
  | cons b r ih => intro e h; exact ih _ (emit_lt _ _ _ h)
end Part_pld

section Part_ple
/-- the word, and the word from behind -/
def unk : List Nat := [117, 110, 107, 110, 111, 119, 110]
def knu : List Nat := [110, 119, 111, 110, 107, 110, 117]
/-- what has been taken between two signs of the pile: a row of words, each with what had been taken within it -/
inductive Fo
  | nil : Fo
  | grow (f f1 f2 f3 f4 f5 f6 : Fo) : Fo
namespace Fo
def m6 (a b c d e f : Nat) : Nat := max a (max b (max c (max d (max e f))))
theorem m6_le {a b c d e f t : Nat} : m6 a b c d e f ≤ t ↔ a ≤ t ∧ b ≤ t ∧ c ≤ t ∧ d ≤ t ∧ e ≤ t ∧ f ≤ t := by unfold m6; simp only [Nat.max_le]
def rnd : Fo → Nat
  | nil => 0
  | grow f f1 f2 f3 f4 f5 f6 => max f.rnd (1 + m6 f1.rnd f2.rnd f3.rnd f4.rnd f5.rnd f6.rnd)
/-- the signs that still stand behind round t, the last one first -/
def st (t : Nat) : Fo → List Nat
  | nil => []
  | grow f f1 f2 f3 f4 f5 f6 =>
    if t < 1 + m6 f1.rnd f2.rnd f3.rnd f4.rnd f5.rnd f6.rnd then
      110 :: (f6.st t ++ 119 :: (f5.st t ++ 111 :: (f4.st t ++ 110 :: (f3.st t ++ 107 :: (f2.st t ++ 110 :: (f1.st t ++ 117 :: f.st t))))))
    else f.st t
def size : Fo → Nat
  | nil => 0
  | grow f f1 f2 f3 f4 f5 f6 => 8 + f.size + f1.size + f2.size + f3.size + f4.size + f5.size + f6.size
/-- all its signs with their rounds, the last one first -/
def fl : Fo → List (Nat × Nat)
  | nil => []
  | grow f f1 f2 f3 f4 f5 f6 =>
    let n := 1 + m6 f1.rnd f2.rnd f3.rnd f4.rnd f5.rnd f6.rnd
    (110, n) :: (f6.fl ++ (119, n) :: (f5.fl ++ (111, n) :: (f4.fl ++ (110, n) :: (f3.fl ++ (107, n) :: (f2.fl ++ (110, n) :: (f1.fl ++ (117, n) :: f.fl))))))
theorem st_nil_of : ∀ {f : Fo} {t : Nat}, f.rnd ≤ t → f.st t = []
  | nil, _, _ => rfl
  | grow f f1 f2 f3 f4 f5 f6, t, h => by
    rw [rnd] at h
    have h' := Nat.max_le.mp h
    rw [st, if_neg (Nat.not_lt.mpr h'.2)]
    exact st_nil_of h'.1
theorem of_st_nil : ∀ {f : Fo} {t : Nat}, f.st t = [] → f.rnd ≤ t
  | nil, _, _ => Nat.zero_le _
  | grow f f1 f2 f3 f4 f5 f6, t, h => by
    rw [st] at h
    split at h
    · cases h
    · rename_i hn
      have := of_st_nil h
      rw [rnd]
      exact Nat.max_le.mpr ⟨this, Nat.not_lt.mp hn⟩
/-- what still stands ends on two signs that no start of the word has -/
theorem st_head : ∀ {f : Fo} {t : Nat}, f.st t ≠ [] → ∃ x y, f.st t = 110 :: x :: y ∧ (x = 119 ∨ x = 110)
  | nil, _, h => absurd rfl h
  | grow f f1 f2 f3 f4 f5 f6, t, h => by
    rw [st] at h ⊢
    split
    · by_cases h6 : f6.st t = []
      · rw [h6]; exact ⟨119, _, rfl, .inl rfl⟩
      · obtain ⟨x, y, e, _⟩ := st_head h6
        rw [e]; exact ⟨110, _, rfl, .inr rfl⟩
    · rename_i h1
      rw [if_neg h1] at h
      exact st_head h
end Fo
/-- the pile, its top first: each sign with what had been taken ahead of it -/
abbrev Pile := List (Nat × Fo)
def pst (t : Nat) : Pile → List Nat
  | [] => []
  | (c, f) :: r => c :: (f.st t ++ pst t r)
def psize : Pile → Nat
  | [] => 0
  | (_, f) :: r => 1 + f.size + psize r
/-- no word stands on the pile, but such as round t + 1 does not reach -/
def Late (t : Nat) (K : Pile) : Prop :=
  ∀ pre f6 f5 f4 f3 f2 f1 f0 r, K = pre ++ (110, f6) :: (119, f5) :: (111, f4) :: (110, f3) :: (107, f2) :: (110, f1) :: (117, f0) :: r →
    t < Fo.m6 f1.rnd f2.rnd f3.rnd f4.rnd f5.rnd f6.rnd
theorem Late.tail {t : Nat} {x : Nat × Fo} {K : Pile} (h : Late t (x :: K)) : Late t K := by
  intro pre f6 f5 f4 f3 f2 f1 f0 r e
  exact h (x :: pre) f6 f5 f4 f3 f2 f1 f0 r (by rw [e]; rfl)
theorem fo_pre {f : Fo} {t : Nat} {r : List Nat} {p : List Nat} (h : p <+: f.st t ++ r) (hp : ∀ x y, p = 110 :: x :: y → x ≠ 119 ∧ x ≠ 110) (h2 : ∃ a b r, p = a :: b :: r) : f.st t = [] := by
  by_cases h0 : f.st t = []
  · exact h0
  · obtain ⟨x, y, e, hx⟩ := Fo.st_head h0
    obtain ⟨a, b, q, rfl⟩ := h2
    rw [e] at h
    simp only [List.cons_append, List.cons_prefix_cons] at h
    obtain ⟨rfl, rfl, _⟩ := h
    have := hp _ _ rfl
    omega
theorem fo_pre1 {f : Fo} {t : Nat} {r : List Nat} {c : Nat} {p : List Nat} (h : c :: p <+: f.st t ++ r) (hc : c ≠ 110) : f.st t = [] := by
  by_cases h0 : f.st t = []
  · exact h0
  · obtain ⟨x, y, e, hx⟩ := Fo.st_head h0
    rw [e] at h
    simp only [List.cons_append, List.cons_prefix_cons] at h
    exact absurd h.1 hc
theorem pst_pre {t : Nat} {c : Nat} {p : List Nat} : ∀ {K : Pile}, c :: p <+: pst t K → ∃ f r, K = (c, f) :: r ∧ p <+: f.st t ++ pst t r
  | [], h => by rw [pst] at h; exact absurd (List.prefix_nil.mp h) (by simp)
  | (d, f) :: r, h => by
    rw [pst, List.cons_prefix_cons] at h
    exact ⟨f, r, by rw [h.1], h.2⟩
theorem late_pre {t : Nat} {K : Pile} (hl : Late t K) : ¬ knu <+: pst t K := by
  intro h
  obtain ⟨f6, r6, rfl, h6⟩ := pst_pre (show 110 :: [119, 111, 110, 107, 110, 117] <+: pst t K from h)
  have e6 := fo_pre1 h6 (by decide)
  rw [e6, List.nil_append] at h6
  obtain ⟨f5, r5, rfl, h5⟩ := pst_pre h6
  have e5 := fo_pre1 h5 (by decide)
  rw [e5, List.nil_append] at h5
  obtain ⟨f4, r4, rfl, h4⟩ := pst_pre h5
  have e4 := fo_pre h4 (by intro x y e; cases e; decide) ⟨_, _, _, rfl⟩
  rw [e4, List.nil_append] at h4
  obtain ⟨f3, r3, rfl, h3⟩ := pst_pre h4
  have e3 := fo_pre1 h3 (by decide)
  rw [e3, List.nil_append] at h3
  obtain ⟨f2, r2, rfl, h2⟩ := pst_pre h3
  have e2 := fo_pre h2 (by intro x y e; cases e; decide) ⟨_, _, _, rfl⟩
  rw [e2, List.nil_append] at h2
  obtain ⟨f1, r1, rfl, h1⟩ := pst_pre h2
  have e1 := fo_pre1 h1 (by decide)
  rw [e1, List.nil_append] at h1
  obtain ⟨f0, r0, rfl, h0⟩ := pst_pre h1
  exact Nat.not_le.mpr (hl [] f6 f5 f4 f3 f2 f1 f0 r0 rfl) (Fo.m6_le.mpr ⟨Fo.of_st_nil e1, Fo.of_st_nil e2, Fo.of_st_nil e3, Fo.of_st_nil e4, Fo.of_st_nil e5, Fo.of_st_nil e6⟩)
/-- one round, from behind: it takes what round t + 1 takes -/
theorem round_step (t : Nat) : ∀ (n : Nat) (K : Pile) (F : Fo), F.size + psize K = n → Late t K → replL knu [] (F.st t ++ pst t K) = F.st (t + 1) ++ pst (t + 1) K := by
  intro n
  induction n using Nat.strongRecOn with
  | ind n ih =>
    intro K F hn hl
    cases F with
    | nil =>
      cases K with
      | nil => exact replL_nil _ _
      | cons x K =>
        obtain ⟨c, f⟩ := x
        show replL knu [] (c :: (f.st t ++ pst t K)) = c :: (f.st (t + 1) ++ pst (t + 1) K)
        rw [replL_miss (late_pre hl)]
        rw [psize] at hn
        have h0 : Fo.nil.size = 0 := rfl
        rw [ih (f.size + psize K) (by omega) K f rfl hl.tail]
    | grow f f1 f2 f3 f4 f5 f6 =>
      rw [Fo.size] at hn
      rw [Fo.st, Fo.st]
      generalize hN : 1 + Fo.m6 f1.rnd f2.rnd f3.rnd f4.rnd f5.rnd f6.rnd = N
      by_cases h1 : t < N
      · rw [if_pos h1]
        by_cases h2 : t + 1 < N
        · rw [if_pos h2]
          have key := ih (psize ((110, f6) :: (119, f5) :: (111, f4) :: (110, f3) :: (107, f2) :: (110, f1) :: (117, f) :: K)) (by simp only [psize]; omega)
            ((110, f6) :: (119, f5) :: (111, f4) :: (110, f3) :: (107, f2) :: (110, f1) :: (117, f) :: K) Fo.nil (by rw [Fo.size, Nat.zero_add]) ?_
          · simpa [Fo.st, pst, List.append_assoc] using key
          · intro pre g6 g5 g4 g3 g2 g1 g0 r e
            match pre, e with
            | [], e =>
              simp only [List.nil_append, List.cons.injEq, Prod.mk.injEq, true_and] at e
              obtain ⟨rfl, rfl, rfl, rfl, rfl, rfl, _⟩ := e
              rw [← hN, Nat.add_comm] at h2
              exact Nat.lt_of_add_lt_add_left h2
            | [_], e => simp at e
            | [_, _], e => simp at e
            | [_, _, _], e => simp at e
            | [_, _, _, _], e => simp at e
            | [_, _, _, _, _], e => simp at e
            | [_, _, _, _, _, _], e => simp at e
            | _ :: _ :: _ :: _ :: _ :: _ :: _ :: pre, e =>
              simp only [List.cons_append, List.cons.injEq] at e
              exact hl pre g6 g5 g4 g3 g2 g1 g0 r e.2.2.2.2.2.2.2
        · rw [if_neg h2]
          have hle : Fo.m6 f1.rnd f2.rnd f3.rnd f4.rnd f5.rnd f6.rnd ≤ t := by
            rw [← hN, Nat.add_comm] at h2
            exact Nat.not_lt.mp fun h => h2 (Nat.add_lt_add_left h 1)
          obtain ⟨l1, l2, l3, l4, l5, l6⟩ := Fo.m6_le.mp hle
          have e1 := Fo.st_nil_of l1
          have e2 := Fo.st_nil_of l2
          have e3 := Fo.st_nil_of l3
          have e4 := Fo.st_nil_of l4
          have e5 := Fo.st_nil_of l5
          have e6 := Fo.st_nil_of l6
          rw [e1, e2, e3, e4, e5, e6]
          simp only [List.nil_append, List.cons_append]
          show replL knu [] (knu ++ (f.st t ++ pst t K)) = _
          rw [replL_hit (p := knu) (by decide) ⟨f.st t ++ pst t K, rfl⟩, List.nil_append]
          show replL knu [] (f.st t ++ pst t K) = _
          exact ih (f.size + psize K) (by omega) K f rfl hl
      · rw [if_neg h1, if_neg (fun h => h1 (Nat.lt_of_succ_lt h))]
        exact ih (f.size + psize K) (by omega) K f rfl hl
end Part_ple

section Part_plf
/-- one word taken, on what lies from front to back -/
theorem unk_len : unk.length = 7 := rfl
theorem knu_rev : knu = unk.reverse := rfl
theorem pre_short {x : List Nat} (h : unk <+: x ++ unk) (hx : ¬ unk <+: x) (h0 : x ≠ []) : False := by
  have hl : x.length < 7 := by
    apply Nat.lt_of_not_le
    intro hle
    exact hx ((List.prefix_append_right_inj []).mp (by simpa using List.prefix_of_prefix_length_le h (List.prefix_append x unk) hle))
  obtain ⟨z, hz⟩ := h
  have h1 : (unk ++ z).take (x.length + 7 - x.length) = unk := by
    rw [Nat.add_sub_cancel_left]; rfl
  match x, hl, h0, hz with
  | [a], _, _, hz => simp [unk] at hz
  | [a, b], _, _, hz => simp [unk] at hz
  | [a, b, c], _, _, hz => simp [unk] at hz
  | [a, b, c, d], _, _, hz => simp [unk] at hz
  | [a, b, c, d, e], _, _, hz => simp [unk] at hz
  | [a, b, c, d, e, f], _, _, hz => simp [unk] at hz
  | _ :: _ :: _ :: _ :: _ :: _ :: _ :: r, hl, _, _ => simp at hl; omega
theorem repl_snoc_word : ∀ (n : Nat) (x : List Nat), x.length = n → replL unk [] (x ++ unk) = replL unk [] x := by
  intro n
  induction n using Nat.strongRecOn with
  | ind n ih =>
    intro x hn
    by_cases h : unk <+: x
    · have h7 := h.length_le
      rw [unk_len] at h7
      rw [replL_hit (p := unk) (by decide) (h.trans (List.prefix_append x unk)), replL_hit (p := unk) (by decide) h, List.nil_append, List.nil_append, unk_len,
        List.drop_append_of_le_length h7]
      exact ih (x.drop 7).length (by rw [List.length_drop]; omega) _ rfl
    · cases x with
      | nil => rw [List.nil_append, replL_hit (p := unk) (by decide) (List.prefix_refl _), List.drop_length, List.nil_append]
      | cons c r =>
        have h' : ¬ unk <+: c :: (r ++ unk) := fun e => pre_short (x := c :: r) e h (by simp)
        rw [List.cons_append, replL_miss h', replL_miss h, ih r.length (by rw [← hn]; simp) r rfl]
theorem repl_snoc : ∀ (n : Nat) (x : List Nat) (c : Nat), x.length = n → ¬ unk <:+ x ++ [c] → replL unk [] (x ++ [c]) = replL unk [] x ++ [c] := by
  intro n
  induction n using Nat.strongRecOn with
  | ind n ih =>
    intro x c hn hs
    by_cases h : unk <+: x
    · have h7 := h.length_le
      rw [unk_len] at h7
      rw [replL_hit (p := unk) (by decide) (h.trans (List.prefix_append x [c])), replL_hit (p := unk) (by decide) h, List.nil_append, List.nil_append, unk_len,
        List.drop_append_of_le_length h7]
      refine ih (x.drop 7).length (by rw [List.length_drop]; omega) _ c rfl fun e => hs (e.trans ?_)
      rw [← List.drop_append_of_le_length h7]
      exact List.drop_suffix _ _
    · cases x with
      | nil =>
        have h' : ¬ unk <+: [c] := fun e => by have := e.length_le; simp [unk_len] at this
        rw [List.nil_append, replL_miss h', replL_nil]; rfl
      | cons d r =>
        have h' : ¬ unk <+: d :: (r ++ [c]) := fun e => by
          have e2 : unk <+: (d :: r) ++ [c] := e
          have hle := e2.length_le
          by_cases hl : unk.length ≤ (d :: r).length
          · exact h (List.prefix_of_prefix_length_le e2 (List.prefix_append _ _) hl)
          · refine hs ?_
            have he : unk = (d :: r) ++ [c] := e2.eq_of_length (by rw [List.length_append, List.length_singleton] at hle ⊢; omega)
            rw [← he]
            exact List.suffix_refl _
        have hs' : ¬ unk <:+ r ++ [c] := fun e => hs (e.trans (List.suffix_cons _ _))
        rw [List.cons_append, replL_miss h', replL_miss h, ih r.length (by rw [← hn]; simp) r c rfl hs']
        rfl
theorem repl_rev : ∀ (n : Nat) (y : List Nat), y.length = n → replL unk [] y.reverse = (replL knu [] y).reverse := by
  intro n
  induction n using Nat.strongRecOn with
  | ind n ih =>
    intro y hn
    by_cases h : knu <+: y
    · obtain ⟨z, rfl⟩ := h
      have h7 : knu.length = 7 := rfl
      rw [replL_hit (p := knu) (by decide) (List.prefix_append _ _), List.nil_append, List.drop_left, List.reverse_append]
      show replL unk [] (z.reverse ++ unk) = _
      rw [repl_snoc_word _ _ rfl, ih z.length (by rw [← hn, List.length_append]; omega) z rfl]
    · cases y with
      | nil => simp [replL_nil]
      | cons c r =>
        rw [List.reverse_cons, repl_snoc _ _ _ rfl, replL_miss h, List.reverse_cons, ih r.length (by rw [← hn]; simp) r rfl]
        intro e
        refine h ?_
        have := List.reverse_prefix.mpr e
        rw [← knu_rev] at this
        simpa using this
end Part_plf

section Part_plg
/-- what _law_rounds holds between two turns -/
structure RS where
  rounds : List Nat
  pile : List (Nat × Nat)
  seen : List Nat
  gap : Nat
/-- all signs with their rounds, the last one first -/
def pfl : Pile → List (Nat × Nat)
  | [] => []
  | (c, f) :: r => (c, 0) :: (f.fl ++ pfl r)
/-- the same, the pile's first k signs marked -/
def pflN (N : Nat) : Nat → Pile → List (Nat × Nat)
  | 0, K => pfl K
  | _ + 1, [] => []
  | k + 1, (c, f) :: r => (c, N) :: (f.fl ++ pflN N k r)
def pl : Pile → List (Nat × Nat)
  | [] => []
  | (_, f) :: r => ((f.fl ++ pfl r).length, f.rnd) :: pl r
theorem pl_len : ∀ K : Pile, (pl K).length = K.length
  | [] => rfl
  | (_, f) :: r => by rw [pl, List.length_cons, pl_len r]; rfl
theorem pflN_len (N : Nat) : ∀ (k : Nat) (K : Pile), (pflN N k K).length = (pfl K).length
  | 0, _ => by rw [pflN]
  | _ + 1, [] => by rw [pflN]; rfl
  | k + 1, (c, f) :: r => by rw [pflN, pfl, List.length_cons, List.length_append, pflN_len N k r, List.length_cons, List.length_append]
/-- the marks set, one after the other -/
def setAll (N : Nat) (rs : List Nat) (top : List (Nat × Nat)) : List Nat := top.foldl (fun r p => r.set p.1 N) rs
theorem set_mid (x y : List Nat) (a N : Nat) (z : List Nat) : ((x ++ a :: y).reverse ++ z).set y.length N = (x ++ N :: y).reverse ++ z := by
  have e1 : (x ++ a :: y).reverse ++ z = y.reverse ++ a :: (x.reverse ++ z) := by simp
  have e2 : (x ++ N :: y).reverse ++ z = y.reverse ++ N :: (x.reverse ++ z) := by simp
  rw [e1, e2, List.set_append_right _ _ (by rw [List.length_reverse]; exact Nat.le_refl _), List.length_reverse, Nat.sub_self, List.set_cons_zero]
theorem setAll_top (N : Nat) (z : List Nat) : ∀ (k : Nat) (K : Pile) (front : List Nat), setAll N ((front ++ (pfl K).map (·.2)).reverse ++ z) ((pl K).take k).reverse = (front ++ (pflN N k K).map (·.2)).reverse ++ z
  | 0, K, front => by rw [List.take_zero, List.reverse_nil, pflN]; rfl
  | k + 1, [], front => by rw [pl, List.take_nil, List.reverse_nil, pflN]; rfl
  | k + 1, (c, f) :: r, front => by
    have ih := setAll_top N z k r (front ++ 0 :: f.fl.map (·.2))
    rw [pl, List.take_succ_cons, List.reverse_cons]
    unfold setAll at ih ⊢
    rw [List.foldl_append]
    have e1 : front ++ (pfl ((c, f) :: r)).map (·.2) = front ++ 0 :: f.fl.map (·.2) ++ (pfl r).map (·.2) := by rw [pfl]; simp
    rw [e1, ih]
    have e2 : front ++ 0 :: f.fl.map (·.2) ++ (pflN N k r).map (·.2) = front ++ 0 :: (f.fl ++ pflN N k r).map (·.2) := by simp
    have e3 : (f.fl ++ pfl r).length = ((f.fl ++ pflN N k r).map (·.2)).length := by rw [List.length_map, List.length_append, List.length_append, pflN_len]
    rw [e2]
    show ((front ++ 0 :: (f.fl ++ pflN N k r).map (·.2)).reverse ++ z).set (f.fl ++ pfl r).length N = _
    rw [e3, set_mid]
    rw [pflN]; simp
/-- no word stands on the pile -/
def Clean (K : Pile) : Prop := ∀ pre r, K.map (·.1) ≠ pre ++ knu ++ r
theorem Clean.late {K : Pile} (h : Clean K) (t : Nat) : Late t K := by
  intro pre f6 f5 f4 f3 f2 f1 f0 r e
  exact absurd (by rw [e]; simp [knu]) (h (pre.map (·.1)) (r.map (·.1)))
structure Rel (n : Nat) (pre : List Nat) (s : RS) (K : Pile) (F : Fo) : Prop where
  seen : s.seen = (K.map (·.1)).reverse
  gap : s.gap = F.rnd
  pile : s.pile = (pl K).reverse
  pr : pre = ((F.fl ++ pfl K).map (·.1)).reverse
  rounds : s.rounds = ((F.fl ++ pfl K).map (·.2)).reverse ++ List.replicate (n - pre.length) 0
  le : pre.length ≤ n
  clean : Clean K
def lastL (k : Nat) {α : Type} (l : List α) : List α := l.drop (l.length - k)
def butL (k : Nat) {α : Type} (l : List α) : List α := l.take (l.length - k)
/-- the turn's number: one more than the most of the rounds within -/
def maxL (l : List Nat) : Nat := l.foldl max 0
def rstep (s : RS) (place c : Nat) : RS :=
  if lastL 7 (s.seen ++ [c]) = unk then
    ⟨setAll (1 + maxL ((lastL 7 (s.pile ++ [(place, s.gap)])).tail.map (·.2))) s.rounds (lastL 7 (s.pile ++ [(place, s.gap)])),
     butL 7 (s.pile ++ [(place, s.gap)]), butL 7 (s.seen ++ [c]), max ((lastL 7 (s.pile ++ [(place, s.gap)])).headD (0, 0)).2 (1 + maxL ((lastL 7 (s.pile ++ [(place, s.gap)])).tail.map (·.2)))⟩
  else ⟨s.rounds, s.pile ++ [(place, s.gap)], s.seen ++ [c], 0⟩
theorem lastL_rev {α : Type} (k : Nat) (l : List α) : lastL k l.reverse = (l.take k).reverse := by
  unfold lastL
  rw [List.length_reverse, ← List.reverse_take]
theorem butL_rev {α : Type} (k : Nat) (l : List α) : butL k l.reverse = (l.drop k).reverse := by
  unfold butL
  rw [List.length_reverse, ← List.reverse_drop]
theorem chars_seven {K : Pile} (h : (K.map (·.1)).take 7 = knu) : ∃ f6 f5 f4 f3 f2 f1 f0 r, K = (110, f6) :: (119, f5) :: (111, f4) :: (110, f3) :: (107, f2) :: (110, f1) :: (117, f0) :: r := by
  match K, h with
  | [], h => simp [knu] at h
  | [_], h => simp [knu] at h
  | [_, _], h => simp [knu] at h
  | [_, _, _], h => simp [knu] at h
  | [_, _, _, _], h => simp [knu] at h
  | [_, _, _, _, _], h => simp [knu] at h
  | [_, _, _, _, _, _], h => simp [knu] at h
  | (c6, f6) :: (c5, f5) :: (c4, f4) :: (c3, f3) :: (c2, f2) :: (c1, f1) :: (c0, f0) :: r, h =>
    simp only [List.map_cons, List.take_succ_cons, List.take_zero, knu, List.cons.injEq, and_true] at h
    obtain ⟨rfl, rfl, rfl, rfl, rfl, rfl, rfl⟩ := h
    exact ⟨f6, f5, f4, f3, f2, f1, f0, r, rfl⟩
theorem clean_push {K : Pile} {x : Nat × Fo} (h : Clean K) (hx : (((x :: K) : Pile).map (·.1)).take 7 ≠ knu) : Clean (x :: K) := by
  intro pre r e
  cases pre with
  | nil =>
    refine hx ?_
    rw [e]; rfl
  | cons a p =>
    simp only [List.map_cons, List.cons_append, List.cons.injEq] at e
    exact h p r e.2
theorem Clean.drop {K L : Pile} (h : Clean (L ++ K)) : Clean K := by
  intro pre r e
  refine h (L.map (·.1) ++ pre) r ?_
  rw [List.map_append, e]; simp
theorem pile_last {s : RS} {n : Nat} {pre : List Nat} {K : Pile} {F : Fo} (h : Rel n pre s K F) (c : Nat) : s.pile ++ [(pre.length, s.gap)] = (pl ((c, F) :: K)).reverse := by
  rw [h.pile, h.gap, pl, List.reverse_cons]
  have : pre.length = (F.fl ++ pfl K).length := by rw [h.pr, List.length_reverse, List.length_map]
  rw [this]
theorem seen_last {s : RS} {n : Nat} {pre : List Nat} {K : Pile} {F : Fo} (h : Rel n pre s K F) (c : Nat) : s.seen ++ [c] = (((c, F) :: K : Pile).map (·.1)).reverse := by
  rw [h.seen, List.map_cons, List.reverse_cons]
theorem rel_step {n : Nat} {pre : List Nat} {s : RS} {K : Pile} {F : Fo} (h : Rel n pre s K F) (c : Nat) (hn : pre.length < n) :
    ∃ K' F', Rel n (pre ++ [c]) (rstep s pre.length c) K' F' := by
  have hp := pile_last h c
  have hs := seen_last h c
  have hrep : List.replicate (n - pre.length) 0 = 0 :: List.replicate (n - (pre ++ [c]).length) 0 := by
    have e : n - pre.length = (n - (pre ++ [c]).length) + 1 := by rw [List.length_append, List.length_singleton]; omega
    rw [e]; rfl
  have hpre : pre ++ [c] = ((Fo.nil.fl ++ pfl ((c, F) :: K)).map (·.1)).reverse := by
    rw [h.pr, pfl, Fo.fl]; simp
  have hr : s.rounds = ((Fo.nil.fl ++ pfl ((c, F) :: K)).map (·.2)).reverse ++ List.replicate (n - (pre ++ [c]).length) 0 := by
    rw [h.rounds, hrep, pfl, Fo.fl]; simp
  have hle : (pre ++ [c]).length ≤ n := by rw [List.length_append, List.length_singleton]; omega
  unfold rstep
  rw [hp, hs, lastL_rev, lastL_rev, butL_rev, butL_rev]
  by_cases h7 : ((((c, F) :: K : Pile).map (·.1)).take 7).reverse = unk
  · rw [if_pos h7]
    have h7' : (((c, F) :: K : Pile).map (·.1)).take 7 = knu := by rw [knu_rev, ← h7, List.reverse_reverse]
    obtain ⟨f6, f5, f4, f3, f2, f1, f0, r, e⟩ := chars_seven h7'
    have hcl : Clean r := by
      have := h.clean
      rw [List.cons.injEq] at e
      exact Clean.drop (L := [(119, f5), (111, f4), (110, f3), (107, f2), (110, f1), (117, f0)]) (by rw [List.cons_append, List.cons_append, List.cons_append, List.cons_append, List.cons_append, List.cons_append, List.nil_append, ← e.2]; exact this)
    rw [e] at hpre hr ⊢
    have hN : 1 + maxL ((((pl ((110, f6) :: (119, f5) :: (111, f4) :: (110, f3) :: (107, f2) :: (110, f1) :: (117, f0) :: r)).take 7).reverse).tail.map (·.2)) = 1 + Fo.m6 f1.rnd f2.rnd f3.rnd f4.rnd f5.rnd f6.rnd := by
      simp only [pl, List.take_succ_cons, List.take_zero, List.reverse_cons, List.reverse_nil, List.nil_append, List.cons_append, List.tail_cons, List.map_cons, List.map_nil, maxL, List.foldl_cons, List.foldl_nil, Fo.m6, Nat.zero_max, Nat.max_assoc]
    rw [hN]
    refine ⟨r, .grow f0 f1 f2 f3 f4 f5 f6, ?_, ?_, ?_, ?_, ?_, hle, hcl⟩
    · rfl
    · show max f0.rnd _ = _
      rw [Fo.rnd]
    · rfl
    · rw [hpre, pfl, pfl, pfl, pfl, pfl, pfl, pfl, Fo.fl, Fo.fl]; simp
    · show setAll _ s.rounds _ = _
      have := setAll_top (1 + Fo.m6 f1.rnd f2.rnd f3.rnd f4.rnd f5.rnd f6.rnd) (List.replicate (n - (pre ++ [c]).length) 0) 7 ((110, f6) :: (119, f5) :: (111, f4) :: (110, f3) :: (107, f2) :: (110, f1) :: (117, f0) :: r) []
      rw [List.nil_append, List.nil_append] at this
      rw [hr, Fo.fl, List.nil_append, this]
      simp only [pflN, Fo.fl]
      simp
  · rw [if_neg h7]
    have h7' : (((c, F) :: K : Pile).map (·.1)).take 7 ≠ knu := fun e => h7 (by rw [e]; rfl)
    exact ⟨(c, F) :: K, .nil, rfl, rfl, rfl, hpre, hr, hle, clean_push h.clean h7'⟩
/-- the run over a row -/
def rrun (row : List Nat) : Nat → RS
  | 0 => ⟨List.replicate row.length 0, [], [], 0⟩
  | k + 1 => rstep (rrun row k) k (row.getD k 0)
theorem rel_run (row : List Nat) : ∀ k, k ≤ row.length → ∃ K F, Rel row.length (row.take k) (rrun row k) K F
  | 0, _ => ⟨[], .nil, by
      refine ⟨rfl, rfl, rfl, rfl, ?_, Nat.zero_le _, fun pre r e => by simp [knu] at e⟩
      rw [List.take_zero]; rfl⟩
  | k + 1, hk => by
    obtain ⟨K, F, h⟩ := rel_run row k (by omega)
    have hl : (row.take k).length = k := by rw [List.length_take]; omega
    obtain ⟨K', F', h'⟩ := rel_step h (row.getD k 0) (by rw [hl]; omega)
    refine ⟨K', F', ?_⟩
    rw [hl] at h'
    have e : row.take (k + 1) = row.take k ++ [row.getD k 0] := by
      rw [List.take_add_one, List.getD_eq_getElem?_getD, List.getElem?_eq_getElem (show k < row.length by omega)]; rfl
    rw [e]
    exact h'
/-- the signs that still stand behind round t -/
def stage (row rounds : List Nat) (t : Nat) : List Nat := ((row.zip rounds).filter (fun p => p.2 == 0 || decide (t < p.2))).map (·.1)
theorem fl_pos : ∀ (f : Fo), ∀ p ∈ f.fl, 1 ≤ p.2 ∧ p.2 ≤ f.rnd
  | .nil, p, h => nomatch h
  | .grow f f1 f2 f3 f4 f5 f6, p, h => by
    obtain ⟨l1, l2, l3, l4, l5, l6⟩ := Fo.m6_le.mp (Nat.le_refl (Fo.m6 f1.rnd f2.rnd f3.rnd f4.rnd f5.rnd f6.rnd))
    rw [Fo.rnd]
    simp only [Fo.fl, List.mem_cons, List.mem_append] at h
    generalize Fo.m6 f1.rnd f2.rnd f3.rnd f4.rnd f5.rnd f6.rnd = M at h l1 l2 l3 l4 l5 l6 ⊢
    have own : ∀ c : Nat, p = (c, 1 + M) → 1 ≤ p.2 ∧ p.2 ≤ max f.rnd (1 + M) := fun c e => by rw [e]; exact ⟨Nat.le_add_right 1 M, Nat.le_max_right _ _⟩
    have sub : ∀ g : Fo, g.rnd ≤ M → (1 ≤ p.2 ∧ p.2 ≤ g.rnd) → 1 ≤ p.2 ∧ p.2 ≤ max f.rnd (1 + M) := fun g hg hp => ⟨hp.1, Nat.le_trans hp.2 (Nat.le_trans hg (Nat.le_trans (Nat.le_add_left M 1) (Nat.le_max_right _ _)))⟩
    exact h.elim (own _) fun h => h.elim (fun h => sub f6 l6 (fl_pos f6 p h)) fun h => h.elim (own _) fun h => h.elim (fun h => sub f5 l5 (fl_pos f5 p h)) fun h => h.elim (own _) fun h => h.elim (fun h => sub f4 l4 (fl_pos f4 p h)) fun h =>
      h.elim (own _) fun h => h.elim (fun h => sub f3 l3 (fl_pos f3 p h)) fun h => h.elim (own _) fun h => h.elim (fun h => sub f2 l2 (fl_pos f2 p h)) fun h => h.elim (own _) fun h => h.elim (fun h => sub f1 l1 (fl_pos f1 p h)) fun h =>
      h.elim (own _) fun h => ⟨(fl_pos f p h).1, Nat.le_trans (fl_pos f p h).2 (Nat.le_max_left _ _)⟩
theorem fl_st (t : Nat) : ∀ f : Fo, (f.fl.filter (fun p => p.2 == 0 || decide (t < p.2))).map (·.1) = f.st t
  | .nil => rfl
  | .grow f f1 f2 f3 f4 f5 f6 => by
    have gone : ∀ g : Fo, g.rnd ≤ t → g.fl.filter (fun p => p.2 == 0 || decide (t < p.2)) = [] := fun g hg => by
      rw [List.filter_eq_nil_iff]
      intro p hp
      have := fl_pos g p hp
      simp only [Bool.or_eq_true, beq_iff_eq, decide_eq_true_eq]
      omega
    have hf := fl_st t f
    rw [Fo.st]
    simp only [Fo.fl]
    by_cases h : t < 1 + Fo.m6 f1.rnd f2.rnd f3.rnd f4.rnd f5.rnd f6.rnd
    · have h1 := fl_st t f1
      have h2 := fl_st t f2
      have h3 := fl_st t f3
      have h4 := fl_st t f4
      have h5 := fl_st t f5
      have h6 := fl_st t f6
      rw [if_pos h]
      generalize Fo.m6 f1.rnd f2.rnd f3.rnd f4.rnd f5.rnd f6.rnd = M at *
      have ht : ∀ c : Nat, (fun p : Nat × Nat => p.2 == 0 || decide (t < p.2)) (c, 1 + M) = true := fun c => by simp [h]
      simp only [List.filter_cons, List.filter_append, List.map_append, List.map_cons, ht, if_true, h1, h2, h3, h4, h5, h6, hf]
    · rw [if_neg h]
      have hle : Fo.m6 f1.rnd f2.rnd f3.rnd f4.rnd f5.rnd f6.rnd ≤ t := Nat.le_trans (Nat.le_add_left _ 1) (Nat.not_lt.mp h)
      obtain ⟨l1, l2, l3, l4, l5, l6⟩ := Fo.m6_le.mp hle
      have g1 := gone f1 l1
      have g2 := gone f2 l2
      have g3 := gone f3 l3
      have g4 := gone f4 l4
      have g5 := gone f5 l5
      have g6 := gone f6 l6
      clear hle l1 l2 l3 l4 l5 l6
      generalize Fo.m6 f1.rnd f2.rnd f3.rnd f4.rnd f5.rnd f6.rnd = M at *
      have ht : ∀ c : Nat, (fun p : Nat × Nat => p.2 == 0 || decide (t < p.2)) (c, 1 + M) = false := fun c => by simp [h]
      simp only [List.filter_cons, List.filter_append, List.map_append, List.map_cons, ht, g1, g2, g3, g4, g5, g6, hf, List.nil_append, List.map_nil, Bool.false_eq_true, if_false]
theorem pfl_st (t : Nat) : ∀ K : Pile, ((pfl K).filter (fun p => p.2 == 0 || decide (t < p.2))).map (·.1) = pst t K
  | [] => rfl
  | (c, f) :: r => by
    rw [pfl, List.filter_cons, if_pos (by rfl), List.filter_append, List.map_cons, List.map_append, fl_st, pfl_st t r, pst]
theorem zip_maps (l : List (Nat × Nat)) : (l.map (·.1)).zip (l.map (·.2)) = l := by
  induction l with
  | nil => rfl
  | cons p r ih => rw [List.map_cons, List.map_cons, List.zip_cons_cons, ih]
theorem stage_rel {row : List Nat} {s : RS} {K : Pile} {F : Fo} (h : Rel row.length row s K F) (t : Nat) : stage row s.rounds t = (F.st t ++ pst t K).reverse := by
  unfold stage
  rw [h.rounds, Nat.sub_self, List.replicate_zero, List.append_nil]
  conv => lhs; rw [h.pr]
  rw [← List.map_reverse, ← List.map_reverse, zip_maps, List.filter_reverse, List.map_reverse, List.filter_append, List.map_append, fl_st, pfl_st]
/-- each round's stage is the one before with its words taken -/
theorem stage_next (row : List Nat) (t : Nat) : stage row (rrun row row.length).rounds (t + 1) = replL unk [] (stage row (rrun row row.length).rounds t) := by
  obtain ⟨K, F, h⟩ := rel_run row row.length (Nat.le_refl _)
  rw [List.take_length] at h
  rw [stage_rel h, stage_rel h, repl_rev _ _ rfl, round_step t _ K F rfl (h.clean.late t)]
theorem stage_zero (row : List Nat) : stage row (rrun row row.length).rounds 0 = row := by
  obtain ⟨K, F, h⟩ := rel_run row row.length (Nat.le_refl _)
  rw [List.take_length] at h
  unfold stage
  have e : (row.zip (rrun row row.length).rounds).filter (fun p => p.2 == 0 || decide (0 < p.2)) = row.zip (rrun row row.length).rounds := by
    rw [List.filter_eq_self]
    intro p _
    cases p.2 <;> simp
  rw [e, List.map_fst_zip]
  rw [h.rounds, List.length_append, List.length_reverse, List.length_map, Nat.sub_self]
  conv => lhs; rw [h.pr, List.length_reverse, List.length_map]
  exact Nat.le_add_right _ _
end Part_plg

section Part_plh
/-- the signs that stand for * and ! -/
def fm (a b c : Nat) : Nat := if c = 42 then a else if c = 33 then b else c
theorem signs_b64 : ∀ c ∈ signsL, b64 (ix c % 64) = fm 43 47 c ∧ ix c < 64 := by
  have : signsL.all (fun c => decide (b64 (ix c % 64) = fm 43 47 c ∧ ix c < 64)) = true := by decide +kernel
  intro c hc
  exact of_decide_eq_true (List.all_eq_true.mp this c hc)
theorem sg_mem {k : Nat} (h : k < 64) : sg k ∈ signsL := by
  have hl : k < signsL.length := by rw [signsL_eq]; simp only [List.length_cons, List.length_nil]; omega
  unfold sg
  rw [List.getD_eq_getElem?_getD, List.getElem?_eq_getElem hl]
  exact List.getElem_mem hl
theorem ix_sg {k : Nat} (h : k < 64) : ix (sg k) = k := by
  have : (List.range 64).all (fun k => decide (ix (sg k) = k)) = true := by decide +kernel
  exact of_decide_eq_true (List.all_eq_true.mp this k (List.mem_range.mpr h))
theorem b64_sg {k : Nat} (h : k < 64) : b64 k = fm 43 47 (sg k) := by
  have := (signs_b64 _ (sg_mem h)).1
  rwa [ix_sg h, Nat.mod_eq_of_lt h] at this
theorem emit_8 (chr : Nat) (out : List Nat) : emit chr 8 out = (out ++ [b64 ((chr / 4) % 64)], 2) := by
  rw [emit, if_pos (by decide), emit, if_neg (by decide), Nat.shiftRight_eq_div_pow]
theorem emit_10 (chr : Nat) (out : List Nat) : emit chr 10 out = (out ++ [b64 ((chr / 16) % 64)], 4) := by
  rw [emit, if_pos (by decide), emit, if_neg (by decide), Nat.shiftRight_eq_div_pow]
theorem emit_12 (chr : Nat) (out : List Nat) : emit chr 12 out = (out ++ [b64 ((chr / 64) % 64), b64 (chr % 64)], 0) := by
  rw [emit, if_pos (by decide), emit, if_pos (by decide), emit, if_neg (by decide), Nat.shiftRight_eq_div_pow, Nat.shiftRight_eq_div_pow]
  simp
theorem step_8 (out : List Nat) (chr b : Nat) : encStep ⟨out, 0, chr⟩ b = ⟨out ++ [b64 (((chr * 256 + b) % 65536 / 4) % 64)], 2, (chr * 256 + b) % 65536⟩ := by
  unfold encStep; dsimp only; rw [Nat.zero_add, emit_8]
theorem step_10 (out : List Nat) (chr b : Nat) : encStep ⟨out, 2, chr⟩ b = ⟨out ++ [b64 (((chr * 256 + b) % 65536 / 16) % 64)], 4, (chr * 256 + b) % 65536⟩ := by
  unfold encStep; dsimp only; rw [show 2 + 8 = 10 from rfl, emit_10]
theorem step_12 (out : List Nat) (chr b : Nat) : encStep ⟨out, 4, chr⟩ b = ⟨out ++ [b64 (((chr * 256 + b) % 65536 / 64) % 64), b64 ((chr * 256 + b) % 65536 % 64)], 0, (chr * 256 + b) % 65536⟩ := by
  unfold encStep; dsimp only; rw [show 4 + 8 = 12 from rfl, emit_12]
theorem md_gen (X n m : Nat) : X % (n * (64 * m)) / n % 64 = X / n % 64 := by
  rw [Nat.mod_mul_right_div_self, Nat.mod_mul_right_mod]
theorem q_sum (C y m n : Nat) (hn : 0 < n) (h : y < m) : (y + C * m) % (m * n) = C % n * m + y := by
  rw [Nat.mod_mul, Nat.add_mul_mod_self_right, Nat.mod_eq_of_lt h, Nat.add_mul_div_right _ _ (Nat.zero_lt_of_lt h), Nat.div_eq_of_lt h, Nat.zero_add, Nat.mul_comm m, Nat.add_comm]
theorem q_a (C y : Nat) (h : y < 256) : (C * 256 + y) % 65536 / 4 % 64 = y / 4 := by
  rw [show 65536 = 4 * (64 * 256) from rfl, md_gen, Nat.add_comm, show C * 256 = C * 64 * 4 from (Nat.mul_assoc C 64 4).symm, Nat.add_mul_div_right _ _ (by decide), Nat.add_mul_mod_self_right, Nat.mod_eq_of_lt (Nat.div_lt_of_lt_mul h)]
theorem q_b (C y : Nat) (h : y < 256) : (C * 256 + y) % 65536 / 16 % 64 = C % 4 * 16 + y / 16 := by
  rw [show 65536 = 16 * (64 * 64) from rfl, md_gen, Nat.add_comm, show C * 256 = C * 16 * 16 from (Nat.mul_assoc C 16 16).symm, Nat.add_mul_div_right _ _ (by decide)]
  exact q_sum C (y / 16) 16 4 (by decide) (Nat.div_lt_of_lt_mul h)
theorem q_c (C y : Nat) (h : y < 256) : (C * 256 + y) % 65536 / 64 % 64 = C % 16 * 4 + y / 64 := by
  rw [show 65536 = 64 * (64 * 16) from rfl, md_gen, Nat.add_comm, show C * 256 = C * 4 * 64 from (Nat.mul_assoc C 4 64).symm, Nat.add_mul_div_right _ _ (by decide)]
  exact q_sum C (y / 64) 4 16 (by decide) (Nat.div_lt_of_lt_mul h)
theorem q_low (C y n m : Nat) : (C * (m * n) + y) % (n * (m * 256)) % n = y % n := by
  rw [Nat.mod_mul_right_mod, Nat.add_comm, ← Nat.mul_assoc, Nat.add_mul_mod_self_right]
theorem q_d (C y : Nat) : (C * 256 + y) % 65536 % 64 = y % 64 := q_low C y 64 4
theorem q_4 (C y : Nat) : (C * 256 + y) % 65536 % 4 = y % 4 := q_low C y 4 64
theorem q_16 (C y : Nat) : (C * 256 + y) % 65536 % 16 = y % 16 := q_low C y 16 16
theorem dm_div (x y n : Nat) (h : y < n) : (x * n + y) / n = x := by
  rw [Nat.mul_comm, Nat.mul_add_div (by omega), Nat.div_eq_of_lt h, Nat.add_zero]
theorem dm_mod (x y n : Nat) (h : y < n) : (x * n + y) % n = y := by
  rw [Nat.mul_comm, Nat.mul_add_mod, Nat.mod_eq_of_lt h]
theorem n_hi (a b c d : Nat) (hb : b < 64) (hc : c < 64) (hd : d < 64) : (((a * 64 + b) * 64 + c) * 64 + d) / 65536 = a * 4 + b / 16 := by
  rw [show 65536 = 64 * (64 * 16) from rfl, ← Nat.div_div_eq_div_mul, dm_div _ _ _ hd, ← Nat.div_div_eq_div_mul, dm_div _ _ _ hc, show a * 64 = a * 4 * 16 by omega, Nat.mul_comm, Nat.mul_add_div (by decide)]
theorem n_mid (a b c d : Nat) (hc : c < 64) (hd : d < 64) : (((a * 64 + b) * 64 + c) * 64 + d) / 256 % 256 = b % 16 * 16 + c / 4 := by
  rw [show (((a * 64 + b) * 64 + c) * 64 + d) / 256 = (((a * 64 + b) * 64 + c) * 64 + d) / 64 / 4 from (Nat.div_div_eq_div_mul _ 64 4).symm, dm_div _ _ _ hd, Nat.add_comm,
    show (a * 64 + b) * 64 = (a * 64 + b) * 16 * 4 from (Nat.mul_assoc _ 16 4).symm, Nat.add_mul_div_right _ _ (by decide), show 256 = 16 * 16 from rfl, q_sum _ _ 16 16 (by decide) (Nat.div_lt_of_lt_mul hc), Nat.add_comm (a * 64),
    show a * 64 = a * 4 * 16 from (Nat.mul_assoc a 4 16).symm, Nat.add_mul_mod_self_right]
theorem n_lo (x c d : Nat) (hd : d < 64) : ((x * 64 + c) * 64 + d) % 256 = c % 4 * 64 + d := by
  rw [Nat.add_comm, show 256 = 64 * 4 from rfl, q_sum _ _ 64 4 (by decide) hd, Nat.add_comm (x * 64), show x * 64 = x * 16 * 4 from (Nat.mul_assoc x 16 4).symm, Nat.add_mul_mod_self_right]
/-- three octets, four signs -/
theorem enc_three (out : List Nat) (chr a b c d : Nat) (ha : a < 64) (hb : b < 64) (hc : c < 64) (hd : d < 64) :
    ∃ chr', (three (((a * 64 + b) * 64 + c) * 64 + d)).foldl encStep ⟨out, 0, chr⟩ = ⟨out ++ [b64 a, b64 b, b64 c, b64 d], 0, chr'⟩ := by
  simp only [three, List.foldl_cons, List.foldl_nil, step_8, step_10, step_12]
  rw [n_hi a b c d hb hc hd, n_mid a b c d hc hd, n_lo _ c d hd]
  have hb' : b / 16 < 4 := by omega
  have hc' : c / 4 < 16 := by omega
  have h0 : a * 4 + b / 16 < 256 := by omega
  have h1 : b % 16 * 16 + c / 4 < 256 := by omega
  have h2 : c % 4 * 64 + d < 256 := by omega
  rw [q_a _ _ h0, q_b _ _ h1, q_c _ _ h2, q_d, q_4, q_16, dm_div _ _ 4 hb', dm_mod _ _ 64 hd, dm_div _ _ 64 hd]
  have e2 : (a * 4 + b / 16) % 4 * 16 + (b % 16 * 16 + c / 4) / 16 = b := by
    rw [dm_mod _ _ 4 hb', dm_div _ _ 16 hc']; omega
  have e3 : (b % 16 * 16 + c / 4) % 16 * 4 + c % 4 = c := by
    rw [dm_mod _ _ 16 hc']; omega
  rw [e2, e3]
  exact ⟨_, by rw [List.append_assoc, List.append_assoc]; rfl⟩
theorem num_four (a b c d : Nat) : num [a, b, c, d] = (((ix a % 64) * 64 + ix b % 64) * 64 + ix c % 64) * 64 + ix d % 64 := by
  simp only [num, List.foldl_cons, List.foldl_nil, Nat.mul_comm 64, Nat.zero_mul, Nat.zero_add]
/-- the octets of a body of full fours, written again -/
theorem enc_body : ∀ (k : Nat) (body rest : List Nat), body.length = 4 * k → (∀ c ∈ body, c ∈ signsL) → ∃ chr, (octN (body ++ rest) k).foldl encStep ⟨[], 0, 0⟩ = ⟨body.map (fm 43 47), 0, chr⟩
  | 0, body, rest, hl, _ => ⟨0, by rw [List.eq_nil_of_length_eq_zero (by omega : body.length = 0)]; rfl⟩
  | k + 1, body, rest, hl, hs => by
    have hl1 : (body.take (4 * k)).length = 4 * k := by rw [List.length_take]; omega
    have hl2 : (body.drop (4 * k)).length = 4 := by rw [List.length_drop]; omega
    obtain ⟨chr, ih⟩ := enc_body k (body.take (4 * k)) (body.drop (4 * k) ++ rest) hl1 fun c hc => hs c (List.mem_of_mem_take hc)
    rw [← List.append_assoc, List.take_append_drop] at ih
    match hq : body.drop (4 * k), hl2 with
    | [a, b, c, d], _ =>
      have hm : ∀ x ∈ [a, b, c, d], x ∈ signsL := fun x hx => hs x (List.mem_of_mem_drop (hq ▸ hx))
      have ha := signs_b64 a (hm a (by simp))
      have hb := signs_b64 b (hm b (by simp))
      have hc := signs_b64 c (hm c (by simp))
      have hd := signs_b64 d (hm d (by simp))
      have e4 : ((body ++ rest).drop (4 * k)).take 4 = [a, b, c, d] := by
        rw [List.drop_append_of_le_length (by omega), hq]; rfl
      rw [octN, e4, List.foldl_append, ih, num_four]
      obtain ⟨chr', h'⟩ := enc_three (body.take (4 * k) |>.map (fm 43 47)) chr (ix a % 64) (ix b % 64) (ix c % 64) (ix d % 64) (Nat.mod_lt _ (by decide)) (Nat.mod_lt _ (by decide)) (Nat.mod_lt _ (by decide)) (Nat.mod_lt _ (by decide))
      refine ⟨chr', ?_⟩
      rw [h', ha.1, hb.1, hc.1, hd.1]
      congr 1
      conv => rhs; rw [← List.take_append_drop (4 * k) body, hq, List.map_append]
      rfl
theorem body_no61 {body : List Nat} (hs : ∀ c ∈ body, c ∈ signsL) : body.count 61 = 0 := by
  refine List.count_eq_zero.mpr fun h => ?_
  have := hs _ h
  rw [signsL_eq] at this
  revert this; decide
theorem sg_ne61 {k : Nat} (h : k < 64) : sg k ≠ 61 := fun e => by
  have := body_no61 (body := [sg k]) (fun c hc => by rw [List.mem_singleton.mp hc]; exact sg_mem h)
  rw [e] at this
  exact absurd this (by decide)
theorem octN_end (body tail : List Nat) (k : Nat) (hl : body.length = 4 * k) (ht : tail.length = 4) : octs (body ++ tail) = octN (body ++ tail) k ++ three (num tail) := by
  unfold octs
  have e : (body ++ tail).length / 4 = k + 1 := by rw [List.length_append]; omega
  rw [e, octN, ← hl, List.drop_left, List.take_of_length_le (by omega)]
theorem data_end (body tail : List Nat) (k p : Nat) (hl : body.length = 4 * k) (ht : tail.length = 4) (h0 : body.count 61 = 0) (hp : tail.count 61 = p) (hp3 : p ≤ 3) :
    dataOf (body ++ tail) = octN (body ++ tail) k ++ (three (num tail)).take (3 - p) := by
  unfold dataOf
  rw [octN_end body tail k hl ht, List.length_append, octN_len, List.count_append, h0, hp, show (three (num tail)).length = 3 from rfl,
    Nat.zero_add, Nat.add_sub_assoc hp3, List.take_append, octN_len, List.take_of_length_le (by rw [octN_len]; exact Nat.le_add_right _ _), Nat.add_sub_cancel_left]
theorem duo_1 (chr a b c : Nat) (ha : a < 64) (hb : b < 64) (hc : c < 16) : (chr * 256 + (4 * a + b / 16)) % 65536 / 4 % 64 = a ∧
    ((chr * 256 + (4 * a + b / 16)) % 65536 * 256 + (b % 16 * 16 + c)) % 65536 / 16 % 64 = b ∧ ((chr * 256 + (4 * a + b / 16)) % 65536 * 256 + (b % 16 * 16 + c)) % 65536 % 16 * 4 = c * 4 := by
  have hb' : b / 16 < 4 := by omega
  rw [Nat.mul_comm 4 a, q_a _ _ (by omega), q_b _ _ (by omega), q_16, q_4, dm_div _ _ 4 hb', dm_mod _ _ 4 hb', dm_div _ _ 16 hc, dm_mod _ _ 16 hc]
  exact ⟨rfl, by omega, rfl⟩
theorem lone_1 (chr a b : Nat) (ha : a < 64) (hb : b < 4) : (chr * 256 + (4 * a + b)) % 65536 / 4 % 64 = a ∧ (chr * 256 + (4 * a + b)) % 65536 % 4 * 16 = b * 16 := by
  rw [Nat.mul_comm 4 a, q_a _ _ (by omega), q_4, dm_div _ _ 4 hb, dm_mod _ _ 4 hb]
  exact ⟨rfl, rfl⟩
theorem ix_61 : ix 61 % 64 = 0 := by decide +kernel
theorem duo_data (a b c : Nat) (ha : a < 64) (hb : b < 64) (hc : c < 16) : (three (num [sg a, sg b, sg (c * 4), 61])).take 2 = [4 * a + b / 16, b % 16 * 16 + c] := by
  have hc4 : c * 4 < 64 := by omega
  rw [num_four, ix_sg ha, ix_sg hb, ix_sg hc4, ix_61, Nat.mod_eq_of_lt ha, Nat.mod_eq_of_lt hb, Nat.mod_eq_of_lt hc4, Nat.mul_comm 4 a]
  unfold three
  rw [n_hi a b _ 0 hb hc4 (by decide), n_mid a b _ 0 hc4 (by decide), Nat.mul_div_cancel c (by decide)]
  rfl
theorem lone_data (a b : Nat) (ha : a < 64) (hb : b < 4) : (three (num [sg a, sg (b * 16), 61, 61])).take 1 = [4 * a + b] := by
  have hb4 : b * 16 < 64 := by omega
  rw [num_four, ix_sg ha, ix_sg hb4, ix_61, Nat.mod_eq_of_lt ha, Nat.mod_eq_of_lt hb4, Nat.mul_comm 4 a]
  unfold three
  rw [n_hi a _ 0 0 hb4 (by decide) (by decide), Nat.mul_div_cancel b (by decide)]
  rfl
theorem beq_no {x : Nat} (h : x ≠ 61) : (x == 61) = false := by simp [h]
theorem duo_cnt (a b c : Nat) (ha : a < 64) (hb : b < 64) (hc : c < 16) : [sg a, sg b, sg (c * 4), 61].count 61 = 1 := by
  rw [List.count_cons, List.count_cons, List.count_cons, beq_no (sg_ne61 ha), beq_no (sg_ne61 hb), beq_no (sg_ne61 (k := c * 4) (by omega))]
  rfl
theorem lone_cnt (a b : Nat) (ha : a < 64) (hb : b < 4) : [sg a, sg (b * 16), 61, 61].count 61 = 2 := by
  rw [List.count_cons, List.count_cons, beq_no (sg_ne61 ha), beq_no (sg_ne61 (k := b * 16) (by omega))]
  rfl
theorem encode_page {page : Str} {cuts : List Int} (hg : GoodPage page cuts) : encode (dataOf page.cps.toList) = page.cps.toList.map (fm 43 47) := by
  obtain ⟨body, tail, e, hb4, hs, ht⟩ := hg.form
  rw [e]
  obtain ⟨k, hk⟩ : ∃ k, body.length = 4 * k := ⟨body.length / 4, by omega⟩
  obtain ⟨chr, hb⟩ := enc_body k body tail hk hs
  have hc0 := body_no61 hs
  cases ht with
  | none =>
    have e1 : dataOf (body ++ []) = octN (body ++ []) k := by
      unfold dataOf octs
      rw [List.append_nil, hc0, hk, Nat.mul_div_cancel_left k (by decide), Nat.sub_zero, List.take_length]
    rw [e1]
    unfold encode encAll
    rw [hb]
    unfold encEnd
    rw [if_neg (show ¬ (0 = 2) by decide), if_neg (show ¬ (0 = 4) by decide), List.append_nil]
  | duo a b c ha hb' hc =>
    rw [data_end body _ k 1 hk rfl hc0 (duo_cnt a b c ha hb' hc) (by decide), duo_data a b c ha hb' hc]
    unfold encode encAll
    rw [List.foldl_append, hb, List.foldl_cons, List.foldl_cons, List.foldl_nil, step_8, step_10]
    unfold encEnd
    rw [if_neg (show ¬ (4 = 2) by decide), if_pos rfl]
    dsimp only
    have g1 := duo_1 chr a b c ha hb' hc
    rw [g1.1, g1.2.1, g1.2.2, b64_sg ha, b64_sg hb', b64_sg (by omega), List.map_append, List.append_assoc, List.append_assoc]
    rfl
  | lone a b ha hb' =>
    rw [data_end body _ k 2 hk rfl hc0 (lone_cnt a b ha hb') (by decide), lone_data a b ha hb']
    unfold encode encAll
    rw [List.foldl_append, hb, List.foldl_cons, List.foldl_nil, step_8]
    unfold encEnd
    rw [if_pos rfl]
    dsimp only
    have g1 := lone_1 chr a b ha hb'
    rw [g1.1, g1.2, b64_sg ha, b64_sg (by omega), List.map_append, List.append_assoc]
    rfl
end Part_plh

section Part_pli
/-- hyphens: runs become one, none at the end -/
def sqz : Bool → List Nat → List Nat
  | _, [] => []
  | b, c :: r => if c = 45 then sqz true r else if b = true then 45 :: c :: sqz false r else c :: sqz false r
theorem sqz_hy (b : Bool) (r : List Nat) : sqz b (45 :: r) = sqz true r := by rw [sqz, if_pos rfl]
theorem sqz_no {c : Nat} (h : c ≠ 45) (b : Bool) (r : List Nat) : sqz b (c :: r) = (if b = true then [45] else []) ++ c :: sqz false r := by
  rw [sqz, if_neg h]; cases b <;> rfl
/-- one pass of '--' to '-' changes nothing of it -/
theorem sqz_pass : ∀ (n : Nat) (b : Bool) (x : List Nat), x.length = n → sqz b (replL [45, 45] [45] x) = sqz b x := by
  intro n
  induction n using Nat.strongRecOn with
  | ind n ih =>
    intro b x hn
    by_cases h : [45, 45] <+: x
    · obtain ⟨r, rfl⟩ := h
      rw [replL_hit (p := [45, 45]) (by decide) (List.prefix_append _ _), List.drop_left]
      show sqz b (45 :: replL [45, 45] [45] r) = sqz b (45 :: 45 :: r)
      rw [sqz_hy, sqz_hy, sqz_hy]
      exact ih r.length (by rw [← hn]; simp; omega) true r rfl
    · cases x with
      | nil => rw [replL_nil]
      | cons c r =>
        rw [replL_miss h]
        have hr := fun b => ih r.length (by rw [← hn]; simp) b r rfl
        by_cases hc : c = 45
        · subst hc; rw [sqz_hy, sqz_hy, hr]
        · rw [sqz_no hc, sqz_no hc, hr]
theorem sqz_end : ∀ (b : Bool) (x : List Nat), sqz b (x ++ [45]) = sqz b x
  | b, [] => by rw [List.nil_append, sqz_hy]; cases b <;> rfl
  | b, c :: r => by
    rw [List.cons_append]
    by_cases hc : c = 45
    · subst hc; rw [sqz_hy, sqz_hy, sqz_end]
    · rw [sqz_no hc, sqz_no hc, sqz_end]
/-- a text without '--' and without a '-' at its end stands as it is -/
theorem sqz_same : ∀ (x : List Nat), (∀ p r, x ≠ p ++ [45, 45] ++ r) → x.getLast? ≠ some 45 → sqz false x = x
  | [], _, _ => rfl
  | c :: r, h, hl => by
    have hr : ∀ p q, r ≠ p ++ [45, 45] ++ q := fun p q e => h (c :: p) q (by rw [e]; rfl)
    by_cases hc : c = 45
    · subst hc
      cases r with
      | nil => exact absurd rfl hl
      | cons d r' =>
        have hd : d ≠ 45 := fun e => h [] r' (by rw [e]; rfl)
        have hl' : (d :: r').getLast? ≠ some 45 := by rwa [List.getLast?_cons_cons] at hl
        have := sqz_same (d :: r') hr hl'
        rw [sqz_hy, sqz_no hd]
        rw [sqz_no hd] at this
        simpa using this
    · rw [sqz_no hc]
      cases r with
      | nil => rfl
      | cons d r' =>
        have hl' : (d :: r').getLast? ≠ some 45 := by rwa [List.getLast?_cons_cons] at hl
        rw [sqz_same (d :: r') hr hl']; rfl
/-- where the pass finds nothing -/
theorem pass_same : ∀ (n : Nat) (x : List Nat), x.length = n → replL [45, 45] [45] x = x → ∀ p r, x ≠ p ++ [45, 45] ++ r := by
  have hlen : ∀ (n : Nat) (x : List Nat), x.length = n → (replL [45, 45] [45] x).length ≤ x.length := by
    intro n
    induction n using Nat.strongRecOn with
    | ind n ih =>
      intro x hn
      by_cases h : [45, 45] <+: x
      · obtain ⟨r, rfl⟩ := h
        rw [replL_hit (p := [45, 45]) (by decide) (List.prefix_append _ _), List.drop_left]
        have := ih r.length (by rw [← hn]; simp; omega) r rfl
        simp; omega
      · cases x with
        | nil => rw [replL_nil]; exact Nat.le_refl _
        | cons c r =>
          rw [replL_miss h]
          have := ih r.length (by rw [← hn]; simp) r rfl
          simp; omega
  intro n
  induction n using Nat.strongRecOn with
  | ind n ih =>
    intro x hn he p r e
    by_cases h : [45, 45] <+: x
    · obtain ⟨q, rfl⟩ := h
      rw [replL_hit (p := [45, 45]) (by decide) (List.prefix_append _ _), List.drop_left] at he
      have h1 := hlen _ q rfl
      have h2 := congrArg List.length he
      simp at h2
      omega
    · cases x with
      | nil => simp at e
      | cons c q =>
        rw [replL_miss h] at he
        have he' : replL [45, 45] [45] q = q := (List.cons.inj he).2
        cases p with
        | nil => exact h (by rw [e]; exact ⟨r, rfl⟩)
        | cons d p =>
          have e' : q = p ++ [45, 45] ++ r := (List.cons.inj e).2
          exact ih q.length (by rw [← hn]; simp) q rfl he' p r e'
theorem pass_len : ∀ (n : Nat) (x : List Nat), x.length = n → (replL [45, 45] [45] x).length ≤ x.length ∧ (replL [45, 45] [45] x ≠ x → (replL [45, 45] [45] x).length < x.length) := by
  intro n
  induction n using Nat.strongRecOn with
  | ind n ih =>
    intro x hn
    by_cases h : [45, 45] <+: x
    · obtain ⟨r, rfl⟩ := h
      rw [replL_hit (p := [45, 45]) (by decide) (List.prefix_append _ _), List.drop_left]
      have := (ih r.length (by rw [← hn]; simp; omega) r rfl).1
      simp; omega
    · cases x with
      | nil => rw [replL_nil]; exact ⟨Nat.le_refl _, fun e => absurd rfl e⟩
      | cons c r =>
        rw [replL_miss h]
        have := ih r.length (by rw [← hn]; simp) r rfl
        simp only [List.length_cons, ne_eq, List.cons.injEq, true_and]
        exact ⟨by omega, fun e => by have := this.2 e; omega⟩
/-- a word's start, read through the hyphens -/
theorem sqz_pre : ∀ (p r : List Nat), (∀ c ∈ p, c ≠ 45) → (p <+: sqz false r ↔ p <+: r)
  | [], r, _ => ⟨fun _ => List.nil_prefix, fun _ => List.nil_prefix⟩
  | a :: p, [], _ => Iff.rfl
  | a :: p, c :: r, h => by
    have ha : a ≠ 45 := h a (.head _)
    by_cases hc : c = 45
    · subst hc
      rw [sqz_hy]
      constructor
      · intro h1
        exfalso
        have : ∀ r : List Nat, ¬ a :: p <+: sqz true r := by
          intro r
          induction r with
          | nil => intro e; exact absurd (List.prefix_nil.mp e) (by simp)
          | cons d r ih =>
            intro e
            by_cases hd : d = 45
            · subst hd; rw [sqz_hy] at e; exact ih e
            · rw [sqz_no hd, if_pos rfl, List.cons_append, List.cons_prefix_cons] at e
              exact ha e.1
        exact this r h1
      · intro h1
        rw [List.cons_prefix_cons] at h1
        exact absurd h1.1 ha
    · rw [sqz_no hc, if_neg (by decide), List.nil_append, List.cons_prefix_cons, List.cons_prefix_cons, sqz_pre p r fun c hc => h c (.tail _ hc)]
theorem unk_no45 : ∀ c ∈ unk, c ≠ 45 := by decide
theorem sqz_part : ∀ (p : List Nat) (b : Bool) (r : List Nat), (∀ c ∈ p, c ≠ 45) → p ≠ [] → sqz b (p ++ r) = (if b = true then [45] else []) ++ (p ++ sqz false r)
  | [], _, _, _, h => absurd rfl h
  | [c], b, r, h, _ => by
    have hc : c ≠ 45 := h c (.head _)
    show sqz b (c :: r) = _
    rw [sqz_no hc]; rfl
  | c :: d :: p, b, r, h, _ => by
    have hc : c ≠ 45 := h c (.head _)
    show sqz b (c :: ((d :: p) ++ r)) = _
    rw [sqz_no hc, sqz_part (d :: p) false r (fun x hx => h x (.tail _ hx)) (by simp)]
    rfl
/-- the words taken from the squeezed text, squeezed, are the words taken from the text, squeezed -/
theorem sqz_words : ∀ (n : Nat) (b b' : Bool) (x : List Nat), x.length = n → sqz b' (replL unk [] (sqz b x)) = sqz (b || b') (replL unk [] x) := by
  intro n
  induction n using Nat.strongRecOn with
  | ind n ih =>
    intro b b' x hn
    have hyp : ∀ (b : Bool) (y : List Nat), replL unk [] ((if b = true then [45] else []) ++ y) = (if b = true then [45] else []) ++ replL unk [] y := by
      intro b y
      cases b
      · rfl
      · show replL unk [] (45 :: y) = 45 :: replL unk [] y
        refine replL_miss fun e => ?_
        rw [show unk = 117 :: [110, 107, 110, 111, 119, 110] from rfl, List.cons_prefix_cons] at e
        exact absurd e.1 (by decide)
    have hyq : ∀ (b b' : Bool) (y : List Nat), (∀ z, y ≠ 45 :: z) → sqz b' ((if b = true then [45] else []) ++ y) = if y = [] then [] else sqz (b || b') y := by
      intro b b' y hy
      cases y with
      | nil => rw [if_pos rfl]; cases b <;> cases b' <;> rfl
      | cons c z =>
        have hc : c ≠ 45 := fun e => hy z (by rw [e])
        cases b
        · show sqz b' (c :: z) = if c :: z = [] then [] else sqz (false || b') (c :: z)
          rw [if_neg (List.cons_ne_nil _ _), Bool.false_or]
        · show sqz b' (45 :: c :: z) = if c :: z = [] then [] else sqz (true || b') (c :: z)
          rw [if_neg (List.cons_ne_nil _ _), sqz_hy, Bool.true_or]
    cases x with
    | nil => rw [replL_nil]; show sqz b' (replL unk [] []) = _; rw [replL_nil]; rfl
    | cons c r =>
      by_cases hc : c = 45
      · subst hc
        have e1 : replL unk [] (45 :: r) = 45 :: replL unk [] r := hyp true r
        rw [sqz_hy, e1, sqz_hy, ih r.length (by rw [← hn]; simp) true b' r rfl]
        rfl
      · by_cases h : unk <+: c :: r
        · obtain ⟨q, hq⟩ := h
          have hx : c :: r = unk ++ q := hq.symm
          have hs : ∀ b, sqz b (unk ++ q) = (if b = true then [45] else []) ++ (unk ++ sqz false q) := by
            intro b
            exact sqz_part unk b q unk_no45 (by decide)
          rw [hx, hs, hyp, replL_hit (p := unk) (by decide) (List.prefix_append _ _), replL_hit (p := unk) (by decide) (List.prefix_append _ _), List.drop_left, List.drop_left, List.nil_append, List.nil_append]
          have key : sqz (b || b') (replL unk [] (sqz false q)) = sqz (b || b') (replL unk [] q) := by
            have := ih q.length (by rw [← hn, hx, List.length_append, unk_len]; omega) false (b || b') q rfl
            rwa [Bool.false_or] at this
          rw [← key]
          cases b
          · rfl
          · show sqz b' (45 :: _) = _
            rw [sqz_hy]; rfl
        · have h' : ¬ unk <+: c :: sqz false r := by
            intro e
            refine h ?_
            have e2 : unk <+: sqz false (c :: r) := by rw [sqz_no hc]; exact e
            exact (sqz_pre unk (c :: r) unk_no45).mp e2
          rw [sqz_no hc, hyp, replL_miss h', replL_miss h]
          have ihr := ih r.length (by rw [← hn]; simp) false false r rfl
          rw [hyq b b' _ (fun z e => hc (List.cons.inj e).1), if_neg (List.cons_ne_nil _ _), sqz_no hc, sqz_no hc, ihr]
          rfl
/-- a text's parts between hyphens: the first, and those behind it that are not empty -/
def hyJoin (p : List Nat) (ps : List (List Nat)) : List Nat := p ++ (ps.filter (fun q => !q.isEmpty)).flatMap (fun q => 45 :: q)
theorem sqz_parts : ∀ (ps : List (List Nat)) (b : Bool), (∀ q ∈ ps, ∀ c ∈ q, c ≠ 45) → sqz b (ps.flatMap (fun q => 45 :: q)) = (ps.filter (fun q => !q.isEmpty)).flatMap (fun q => 45 :: q)
  | [], b, _ => by cases b <;> rfl
  | q :: ps, b, h => by
    have ih := fun b => sqz_parts ps b fun q hq => h q (.tail _ hq)
    rw [List.flatMap_cons, List.cons_append, sqz_hy]
    cases q with
    | nil => rw [List.nil_append, ih]; rfl
    | cons c q =>
      rw [sqz_part (c :: q) true _ (h _ (.head _)) (by simp), ih]
      rfl
theorem hyJoin_sqz (p : List Nat) (ps : List (List Nat)) (hp : ∀ c ∈ p, c ≠ 45) (h : ∀ q ∈ ps, ∀ c ∈ q, c ≠ 45) : hyJoin p ps = sqz false (p ++ ps.flatMap (fun q => 45 :: q)) := by
  unfold hyJoin
  cases p with
  | nil => rw [List.nil_append, List.nil_append, sqz_parts ps false h]
  | cons c p => rw [sqz_part (c :: p) false _ hp (by simp), sqz_parts ps false h]; rfl
/-- words and signs: the signs' change leaves the words as they are -/
theorem map_pre {f : Nat → Nat} : ∀ (p x : List Nat), (∀ c ∈ p, ∀ d ∈ x, f d = c ↔ d = c) → (p <+: x.map f ↔ p <+: x)
  | [], x, _ => ⟨fun _ => List.nil_prefix, fun _ => List.nil_prefix⟩
  | a :: p, [], _ => by rw [List.map_nil]
  | a :: p, c :: r, h => by
    rw [List.map_cons, List.cons_prefix_cons, List.cons_prefix_cons, map_pre p r fun x hx d hd => h x (.tail _ hx) d (.tail _ hd)]
    have := h a (.head _) c (.head _)
    constructor
    · rintro ⟨e, h2⟩; exact ⟨(this.mp e.symm).symm, h2⟩
    · rintro ⟨e, h2⟩; exact ⟨(this.mpr e.symm).symm, h2⟩
theorem repl_map {f : Nat → Nat} {p : List Nat} (hp : p ≠ []) : ∀ (n : Nat) (x : List Nat), x.length = n → (∀ c ∈ p, ∀ d ∈ x, f d = c ↔ d = c) → replL p [] (x.map f) = (replL p [] x).map f := by
  intro n
  induction n using Nat.strongRecOn with
  | ind n ih =>
    intro x hn h
    have hpl : 0 < p.length := List.length_pos_iff.mpr hp
    by_cases hx : p <+: x
    · rw [replL_hit hp ((map_pre p x h).mpr hx), replL_hit hp hx, List.nil_append, List.nil_append, ← List.map_drop]
      have hle := hx.length_le
      exact ih (x.drop p.length).length (by rw [List.length_drop]; omega) _ rfl fun c hc d hd => h c hc d (List.mem_of_mem_drop hd)
    · cases x with
      | nil => rw [List.map_nil, replL_nil]; rfl
      | cons c r =>
        have h' : ¬ p <+: f c :: r.map f := fun e => hx ((map_pre p (c :: r) h).mp e)
        rw [List.map_cons, replL_miss h', replL_miss hx, List.map_cons, ih r.length (by rw [← hn]; simp) r rfl fun x hx d hd => h x hx d (.tail _ hd)]
end Part_pli

section Part_plj
theorem pl_lt : ∀ (K : Pile), ∀ q ∈ pl K, q.1 < (pfl K).length
  | [], q, h => nomatch h
  | (c, f) :: r, q, h => by
    rw [pl] at h
    rw [pfl, List.length_cons]
    rcases List.mem_cons.mp h with rfl | h
    · exact Nat.lt_succ_self _
    · have := pl_lt r q h
      rw [List.length_append]; omega
theorem pfl_ge : ∀ (K : Pile), K.length ≤ (pfl K).length
  | [] => Nat.le_refl _
  | (c, f) :: r => by
    have := pfl_ge r
    rw [pfl, List.length_cons, List.length_cons, List.length_append]; omega
theorem run_bounds (row : List Nat) (i : Nat) (hi : i ≤ row.length) :
    (rrun row i).seen.length ≤ i ∧ (rrun row i).pile.length = (rrun row i).seen.length ∧ (∀ q ∈ (rrun row i).pile, q.1 < i) ∧ (rrun row i).rounds.length = row.length := by
  obtain ⟨K, F, h⟩ := rel_run row i hi
  have hl : (row.take i).length = i := by rw [List.length_take]; omega
  have hp := congrArg List.length h.pr
  rw [hl, List.length_reverse, List.length_map, List.length_append] at hp
  have h1 := pfl_ge K
  refine ⟨?_, ?_, ?_, ?_⟩
  · rw [h.seen, List.length_reverse, List.length_map]; omega
  · rw [h.seen, h.pile, List.length_reverse, List.length_reverse, List.length_map, pl_len]
  · intro q hq
    rw [h.pile] at hq
    have := pl_lt K q (List.mem_reverse.mp hq)
    omega
  · rw [h.rounds, List.length_append, List.length_reverse, List.length_map, List.length_append, List.length_replicate, hl]; omega
end Part_plj

section Part_plk
/-- bounds of the rounds' numbers -/
theorem foldl_max_le (b : Nat) : ∀ (l : List Nat) (m : Nat), m ≤ b → (∀ x ∈ l, x ≤ b) → l.foldl max m ≤ b
  | [], m, hm, _ => hm
  | y :: r, m, hm, h => foldl_max_le b r (max m y) (Nat.max_le.mpr ⟨hm, h y (.head _)⟩) fun x hx => h x (.tail _ hx)
theorem setAll_le (N b : Nat) (hN : N ≤ b) : ∀ (top : List (Nat × Nat)) (rs : List Nat), (∀ r ∈ rs, r ≤ b) → ∀ r ∈ setAll N rs top, r ≤ b
  | [], _, h => h
  | p :: t, rs, h => by
    intro r hr
    refine setAll_le N b hN t (rs.set p.1 N) (fun y hy => ?_) r hr
    rcases List.mem_or_eq_of_mem_set hy with h1 | h1
    · exact h y h1
    · rw [h1]; exact hN
theorem rrun_le (row : List Nat) : ∀ k, (∀ r ∈ (rrun row k).rounds, r ≤ k) ∧ (∀ q ∈ (rrun row k).pile, q.2 ≤ k) ∧ (rrun row k).gap ≤ k
  | 0 => ⟨fun r hr => by rw [List.eq_of_mem_replicate (show r ∈ List.replicate row.length 0 from hr)]; exact Nat.le_refl _, fun q hq => (nomatch hq), Nat.le_refl _⟩
  | k + 1 => by
    obtain ⟨h1, h2, h3⟩ := rrun_le row k
    show (∀ r ∈ (rstep (rrun row k) k (row.getD k 0)).rounds, r ≤ k + 1) ∧ (∀ q ∈ (rstep (rrun row k) k (row.getD k 0)).pile, q.2 ≤ k + 1) ∧ (rstep (rrun row k) k (row.getD k 0)).gap ≤ k + 1
    have hp : ∀ q ∈ (rrun row k).pile ++ [(k, (rrun row k).gap)], q.2 ≤ k := fun q hq => by
      rcases List.mem_append.mp hq with h | h
      · exact h2 q h
      · rw [List.mem_singleton.mp h]; exact h3
    have hl : ∀ q ∈ lastL 7 ((rrun row k).pile ++ [(k, (rrun row k).gap)]), q.2 ≤ k := fun q hq => hp q (List.mem_of_mem_drop hq)
    have hm : maxL ((lastL 7 ((rrun row k).pile ++ [(k, (rrun row k).gap)])).tail.map (·.2)) ≤ k := by
      refine foldl_max_le k _ 0 (Nat.zero_le _) fun x hx => ?_
      obtain ⟨q, hq, rfl⟩ := List.mem_map.mp hx
      exact hl q (List.mem_of_mem_tail hq)
    unfold rstep
    split
    · refine ⟨setAll_le _ _ (by omega) _ _ fun r hr => Nat.le_succ_of_le (h1 r hr), fun q hq => Nat.le_succ_of_le (hp q (List.mem_of_mem_take hq)), Nat.max_le.mpr ⟨?_, by omega⟩⟩
      cases e : lastL 7 ((rrun row k).pile ++ [(k, (rrun row k).gap)]) with
      | nil => exact Nat.zero_le _
      | cons a r => exact Nat.le_succ_of_le (hl a (by rw [e]; exact .head _))
    · exact ⟨fun r hr => Nat.le_succ_of_le (h1 r hr), fun q hq => Nat.le_succ_of_le (hp q hq), Nat.zero_le _⟩
theorem join_flat : ∀ ys : List Str, (Str.join (Str.ofString "") ys).cps.toList = ys.flatMap (fun q => q.cps.toList)
  | [] => by decide +kernel
  | [y] => by show y.cps.toList = _; simp
  | y :: z :: r => by
    have e : (Str.ofString "").cps.toList = [] := by decide +kernel
    show (y ++ Str.ofString "" ++ Str.join (Str.ofString "") (z :: r)).cps.toList = _
    rw [cps_add, cps_add, join_flat (z :: r), e, List.flatMap_cons]; simp
/-- a stage's text -/
def keepP (rounds : List Nat) (t i : Nat) : Bool := rounds.getD i 0 == 0 || decide (t < rounds.getD i 0)
theorem zip_range : ∀ (J rounds : List Nat), rounds.length = J.length → J.zip rounds = (List.range J.length).map (fun i => (J.getD i 0, rounds.getD i 0)) := by
  intro J rounds h
  apply List.ext_getElem?
  intro i
  by_cases hi : i < J.length
  · have hr : i < rounds.length := h ▸ hi
    have e : (J.zip rounds)[i]? = some (J[i], rounds[i]) := List.getElem?_zip_eq_some.mpr ⟨List.getElem?_eq_getElem hi, List.getElem?_eq_getElem hr⟩
    rw [List.getElem?_map, List.getElem?_range hi, e]
    simp [List.getD_eq_getElem?_getD, List.getElem?_eq_getElem hi, List.getElem?_eq_getElem hr]
  · rw [List.getElem?_eq_none (by rw [List.length_zip]; omega), List.getElem?_eq_none (by rw [List.length_map, List.length_range]; omega)]
theorem stage_text {x : Str} {rounds : List Nat} (h : rounds.length = x.cps.toList.length) (t : Nat) :
    (Str.join (Str.ofString "") (((List.range x.length).filter (keepP rounds t)).map (fun i : Nat => Txt.item x (i : Int)))).cps.toList = stage x.cps.toList rounds t := by
  rw [join_flat]
  unfold stage
  rw [zip_range _ _ h, List.filter_map, List.map_map, List.flatMap_map, len_list]
  have hm : ∀ i ∈ (List.range x.cps.toList.length).filter (keepP rounds t), i < x.cps.toList.length := fun i hi => List.mem_range.mp (List.mem_filter.mp hi).1
  have e : (List.range x.cps.toList.length).filter ((fun p : Nat × Nat => p.2 == 0 || decide (t < p.2)) ∘ fun i => (x.cps.toList.getD i 0, rounds.getD i 0)) = (List.range x.cps.toList.length).filter (keepP rounds t) := rfl
  rw [e]
  generalize (List.range x.cps.toList.length).filter (keepP rounds t) = l at hm
  induction l with
  | nil => rfl
  | cons i r ih =>
    rw [List.flatMap_cons, List.map_cons, ih fun j hj => hm j (.tail _ hj)]
    have hi := hm i (.head _)
    rw [item_list (x := x) (i := i) (c := x.cps.toList.getD i 0) (by rw [List.getD_eq_getElem?_getD, List.getElem?_eq_getElem hi]; rfl)]
    rfl
end Part_plk

section Part_d1
section
variable {w : World} {A : Around} {s : Shared} {R : Result → Shared → Prop} {p : Program} {loose : List Str} {mean : ExcName → Option Value} {mg mb : Str → Option Value}
set_option maxHeartbeats 8000000 in
theorem signs_call 
  (X : (hk.heap_1 w.params).In s.heap) (hlim : s.heap.NoLimit) (hA : A.depth < recursionLimit)
  (hR : ∀ h' tk t, Stays s.heap h' → R (.ok (.ret (.str signsS t))) { s with heap := h', toks := tk}) :
  codeAny (model lw.row.prog w) A (.call (.ref 79) ⟨[], []⟩) R s := by
  revert X
  k_fill
  intro X
  w_strict (
   w_top off
   refine' callOwn (binds := []) ?k1 ?k2 ?k3 ?k4 ?k5 ?k6 ?k7 ?_ ?c1 ?c2 ?c3 ?c4
   (case k1 => exact X)
   (case k2 => exact hlim)
   (case k3 => k_is)
   (case k4 => k_is)
   (case k5 => exact hA)
   (case k6 => exact BindsTo.of_eq rfl)
   (case k7 => exact locs rfl)
   (case c1 => exact rfl)
   (case c2 => exact rfl)
   (case c3 => exact rfl)
   (case c4 => decide)
   intro h₁ F
   have N : News s.heap s.heap.objs.size h₁ [] := News.nil
   (try dsimp only); (try k_fold)
   k_steps
   exact hR _ _ _ F.keep)
end
end Part_d1

section Part_g2
theorem strs_carried : ∀ {vs : List Value} {ns : List Str}, StrsAre vs ns → CarriedAll vs (ns.map PyData.str)
  | _, _, .nil => .nil
  | _, _, .cons _ t r => .cons (.str _ t) (strs_carried r)
theorem strs_sameAll : ∀ ns ms : List Str, PySem.Spec.sameAll (ns.map PyData.str) (ms.map PyData.str) = decide (ns = ms)
  | [], [] => rfl
  | [], _ :: _ => rfl
  | _ :: _, [] => rfl
  | a :: r, b :: t => by
    simp only [List.map_cons, PySem.Spec.sameAll, PySem.Spec.same, strs_sameAll r t]
    by_cases h : a = b <;> by_cases h' : r = t <;> simp [h, h']
theorem strs_same (ns ms : List Str) : PySem.Spec.same (.list (ns.map PyData.str)) (.list (ms.map PyData.str)) = decide (ns = ms) := by
  simp only [PySem.Spec.same]; exact strs_sameAll ns ms
theorem strs_canLayAll0 : ∀ ns : List Str, (∀ x ∈ ns, PyData.strOk x = true) → PyData.canLayAll0 (ns.map PyData.str) = true
  | [], _ => rfl
  | a :: r, h => by simp [PyData.canLayAll0, PyData.canLay0, strs_canLayAll0 r fun x hx => h x (.tail _ hx), h a (.head _)]
theorem strs_depthAll : ∀ ns : List Str, PyData.depthAll (ns.map PyData.str) = 0
  | [] => rfl
  | _ :: r => by simp [PyData.depthAll, PyData.depth, strs_depthAll r]
theorem strs_shaped (ns : List Str) (h : ∀ x ∈ ns, PyData.strOk x = true) : SeqAt.shaped (.list (ns.map PyData.str)) = true := by
  simp [SeqAt.shaped, PyData.canLay0, PyData.depth, strs_canLayAll0 ns h, strs_depthAll]
section
variable {prog : Program} {w : World} {A : Around} {E : Value → Shared → Prop} {s : Shared} {a b : Addr} {xs ys : List Value} {ns ms : List Str} {Q : Value → Shared → Prop}
theorem ne_strs (ha : s.heap.IsList a xs.toArray) (hb : s.heap.IsList b ys.toArray) (hi : StrsAre xs ns) (hj : StrsAre ys ms) (h1 : ∀ x ∈ ns, PyData.strOk x = true) (h2 : ∀ x ∈ ms, PyData.strOk x = true) (hu : A.units + 64 < cLine) (h : Q (.bool (!decide (ns = ms))) s) :
    wpAny (model prog w) A (compareOp .NotEq (.ref a) (.ref b)) Q E s :=
  ne_dataH_same (reads_newData ha (strs_carried hi)) (reads_newData hb (strs_carried hj)) (strs_shaped _ h1) (strs_shaped _ h2) hu (SeqAt.noMix_of_shape (.list .str) rfl _ _ (list_map_has fun _ => rfl) (list_map_has fun _ => rfl)) (by rw [strs_same]; exact h)
end

theorem item_len (x : Str) (i : Int) : (Txt.item x i).length = 1 := rfl
theorem size_ok {n : Nat} (h : n ≤ 16777216) : n ≤ sizeLine := by rw [sizeLine_eq]; exact h
theorem add_fits {x y : Str} {a b : Nat} (hx : x.length ≤ a) (hy : y.length ≤ b) (h : a + b ≤ 16777216) : x.length + y.length ≤ sizeLine := size_ok (by omega)
theorem app_le {x y : Str} {a b : Nat} (hx : x.length ≤ a) (hy : y.length ≤ b) : (x ++ y).length ≤ a + b := by rw [Str.length_append]; omega
theorem item_le (x : Str) (i : Int) : (Txt.item x i).length ≤ 1 := Nat.le_of_eq (item_len x i)
theorem strOk_of {x : Str} (h : ∀ c ∈ x.cps.toList, c < 1114112) : PyData.strOk x = true := by
  unfold PyData.strOk
  rw [← Array.all_toList]
  exact List.all_eq_true.mpr fun c hc => decide_eq_true (h c hc)
theorem strs_snoc : ∀ {vs : List Value} {ys : List Str}, StrsAre vs ys → vs ≠ [] → ∃ us y t zs, vs = us ++ [.str y t] ∧ ys = zs ++ [y] ∧ StrsAre us zs
  | _, _, .nil, h => absurd rfl h
  | _, _, .cons y t (vs := []) r, _ => by cases r; exact ⟨[], y, t, [], rfl, rfl, .nil⟩
  | _, _, .cons y t (vs := v :: r') r, _ => by
    obtain ⟨us, z, u, zs, e1, e2, e3⟩ := strs_snoc r (by simp)
    exact ⟨.str y t :: us, z, u, y :: zs, by rw [e1]; rfl, by rw [e2]; rfl, .cons y t e3⟩
theorem strs_pairs : ∀ {vs : List Value} {ys : List Str}, StrsAre vs ys → ∃ l : List (Str × Tok), strValues l = vs ∧ l.map (·.1) = ys
  | _, _, .nil => ⟨[], rfl, rfl⟩
  | _, _, .cons y t r => let ⟨l, e1, e2⟩ := strs_pairs r; ⟨(y, t) :: l, by rw [← e1]; rfl, by rw [← e2]; rfl⟩
theorem join_strs {prog : Program} {w : World} {A : Around} {E : Value → Shared → Prop} {s : Shared} {D : Addr} {vs : List Value} {ys : List Str} {sep : Str} {t : Tok} {Q : Value → Shared → Prop} (B : Nat) (hl : s.heap.IsList D vs.toArray) (hi : StrsAre vs ys)
    (hB : ∀ y ∈ ys, y.length ≤ B) (hz : ys.length * B + ys.length * sep.length ≤ 16777216) (h : ∀ t' k, Q (.str (Str.join sep ys) t') { s with toks := k }) :
    wpAny (model prog w) A (call (.builtin "str.join") [.str sep t, .ref D]) Q E s := by
  obtain ⟨l, rfl, e2⟩ := strs_pairs hi
  refine SC.join hl e2 (by unfold JoinOk; rw [StrLaws.joinFits hB hz]; rfl) fun t' k => ?_
  show Q (.str (Builtin.Str.glued sep ys) t') _
  rw [StrLaws.glued_eq_join]
  exact h t' k
theorem strs_rev : ∀ {vs : List Value} {ys : List Str}, StrsAre vs ys → StrsAre vs.reverse ys.reverse
  | _, _, .nil => .nil
  | _, _, .cons y t r => by rw [List.reverse_cons, List.reverse_cons]; exact StrsAre.append' (strs_rev r) (.cons _ _ .nil)
theorem strs_len : ∀ {vs : List Value} {ys : List Str}, StrsAre vs ys → vs.length = ys.length
  | _, _, .nil => rfl
  | _, _, .cons _ _ r => by simp [strs_len r]
theorem len_str_ok {prog : Program} {w : World} {A : Around} {E : Value → Shared → Prop} {s : Shared} {x : Str} {t : Tok} {Q : Value → Shared → Prop} (hx : x.length ≤ 16777216) (h : Q (.int x.length (s.toks + 1)) { s with toks := s.toks + 1 + 1 }) : wpAny (model prog w) A (call (.builtin "len") [.str x t]) Q E s :=
  P.len_str (by omega) h
section
variable {prog : Program} {w : World} {A : Around} {E : Value → Shared → Prop} {s : Shared} {h₀ : Heap} {L D b : Addr} {m : Str → Option Value} {news news' : List (Addr × Obj)} {vs ws : List Value} {n n2 : Nat} {Q : Value → Shared → Prop}
theorem extend_ok (F : Fr h₀ L s.heap m) (N : News h₀ L s.heap news) (hb : (b, W.listOf ws.toArray n2) ∈ news) (hne : ws.length ≠ 0) (U : Upd D (W.listOf vs.toArray n) (W.listOf (vs ++ ws).toArray (n + 1)) news news') (hz : vs.length + ws.length ≤ 16777216)
    (h : ∀ h', Fr h₀ L h' m → News h₀ L h' news' → Q .none { s with heap := h' }) : wpAny (model prog w) A (call (.builtin "list.extend") [.ref D, .ref b]) Q E s := by
  refine kl_extend F N hb rfl hne U ?_ ?_ ?_ h
  · intro hc
    rw [Bool.and_eq_true] at hc
    have h2 := hc.2
    unfold Builtin.List.listTooLong at h2
    simp only [List.size_toArray, sizeLine_eq, decide_eq_true_eq] at h2
    omega
  · exact size_ok (by show vs.length ≤ _; omega)
  · rw [List.size_toArray, List.size_toArray, sizeLine_eq]; omega
theorem len_list_ok {k : Nat} (N : News h₀ L s.heap news) (ha : (D, W.listOf vs.toArray k) ∈ news) (hz : vs.length ≤ 16777216) (h : Q (.int vs.length (s.toks + 1)) { s with toks := s.toks + 1 + 1 }) :
    wpAny (model prog w) A (call (.builtin "len") [.ref D]) Q E s := by
  refine PyProof.Rows.len_list (items := vs.toArray) ⟨_, (N _ ha).1, rfl, _, rfl⟩ (by rw [List.size_toArray]; omega) ?_
  rw [List.size_toArray]
  exact h
end
end Part_g2

section Part_tok
section
variable {prog : Program} {w : World} {A : Around} {h : Heap} {g : Array GenState} {d : Drawn} {o : OsState}
/-- a statement, and what is known of the tokens behind it -/
theorem execs_tok {st : Stmt} {rest : List Stmt} {env : Env} {Q : Flow → Shared → Prop} {X : Nat} (hX : 1 ≤ X)
    (hq : ∀ tk, 1 ≤ tk → X ≤ tk → wpAny (model prog w) A (exec st env) (fun f s' => tk ≤ s'.toks → match f with | .next => wpAny (model prog w) A (execs rest env) Q NoE s' | f => Q f s') NoE ⟨h, g, d, tk, o⟩) :
    wpAny (model prog w) A (execs (st :: rest) env) Q NoE ⟨h, g, d, X, o⟩ := by
  refine wpAny_execs_cons (wpAny_mono (wpAny_toks_of (n := X) (Nat.le_refl _) (hq X hX (Nat.le_refl _))) (fun f s' h' => ?_) fun _ _ x => x.2)
  cases f <;> exact h'.2 h'.1
/-- a text's replacing, its old and new apart -/
theorem repl_tok {s : Shared} {E : Value → Shared → Prop} {x y z : Str} {t : Tok} {u v : Nat} {Q : Value → Shared → Prop} (hu : 1 ≤ u) (hv : 1 ≤ v) (huv : u ≠ v) (hyz : (y == z) = false) (hx : x.length ≤ 10000) (hz : z.length ≤ 100)
    (hq : ∀ t' k, s.toks ≤ k → Q (.str (Txt.replace x y z) t') { s with toks := k }) : wpAny (model prog w) A (call (.builtin "str.replace") [.str x t, .str y u, .str z v]) Q E s := by
  have h1 : (x.length + 1) * z.length ≤ 10001 * 100 := Nat.mul_le_mul (by omega) hz
  exact wpAny_with_toks (Nat.le_refl _) (SC.replace (show u ≠ 0 by omega) (show v ≠ 0 by omega) huv hyz (by omega) fun t' k h => hq t' k h)
end
/-- what is behind a statement, hidden while the statement is walked -/
def Hid (Qk : Flow → Shared → Prop) (Qn : Shared → Prop) (Q : Flow → Shared → Prop) : Prop := (∀ s', Qn s' → Qk .next s') ∧ ∀ f s', f ≠ .next → Q f s' → Qk f s'
theorem hid_next {Qk Q : Flow → Shared → Prop} {Qn : Shared → Prop} {s : Shared} (H : Hid Qk Qn Q) (h : Qn s) : Qk .next s := H.1 s h
theorem hid_other {Qk Q : Flow → Shared → Prop} {Qn : Shared → Prop} {s : Shared} {f : Flow} (H : Hid Qk Qn Q) (hf : f ≠ .next) (h : Q f s) : Qk f s := H.2 f s hf h
theorem execs_hide {M : Model} {A : Around} {st : Stmt} {rest : List Stmt} {env : Env} {Q : Flow → Shared → Prop} {E : Value → Shared → Prop} {s : Shared}
    (h : ∀ Qk : Flow → Shared → Prop, Hid Qk (fun s' => wpAny M A (execs rest env) Q E s') Q → wpAny M A (exec st env) Qk E s) : wpAny M A (execs (st :: rest) env) Q E s := by
  refine wpAny_execs_cons (h _ ⟨fun s' hs => hs, fun f s' hf hs => ?_⟩)
  cases f <;> first | exact absurd rfl hf | exact hs
theorem execs_hidt {prog : Program} {w : World} {A : Around} {h : Heap} {g : Array GenState} {d : Drawn} {o : OsState} {st : Stmt} {rest : List Stmt} {env : Env} {Q : Flow → Shared → Prop} {X : Nat} (hX : 1 ≤ X)
    (hq : ∀ tk, 1 ≤ tk → X ≤ tk → ∀ Qk : Flow → Shared → Prop, Hid Qk (fun s' => tk ≤ s'.toks → wpAny (model prog w) A (execs rest env) Q NoE s') (fun f s' => tk ≤ s'.toks → Q f s') → wpAny (model prog w) A (exec st env) Qk NoE ⟨h, g, d, tk, o⟩) :
    wpAny (model prog w) A (execs (st :: rest) env) Q NoE ⟨h, g, d, X, o⟩ := by
  refine execs_tok hX fun tk h1 h2 => hq tk h1 h2 _ ⟨fun s' hs => hs, fun f s' hf hs => ?_⟩
  cases f <;> first | exact absurd rfl hf | exact hs
/-- a goal, hidden while facts are taken apart -/
theorem hide {G : Prop} (h : ∀ G' : Prop, (G → G') → G') : G := h G id
end Part_tok

section Part_cmp
section
variable {prog : Program} {w : World} {A : Around} {E : Value → Shared → Prop} {s : Shared} {h_b : Heap} {C : Addr} {m mg mb : Str → Option Value} {olds : List (Addr × Obj)} {scope : Scope} {cl : List (Str × Addr)} {env : Env} {x : Str} {v : Value} {pos : Pos}
  {p : Program} {loose : List Str} {K : Frag} {a : Addr}
/-- a comprehension's own names -/
theorem cc_store {Q : Unit → Shared → Prop} (F : Fr h_b C s.heap m) (N : News h_b C s.heap olds) (hy : (compEnvC scope cl C env).kindOf x = some .local)
    (hp : ((compEnvC scope cl C env).scope.kind == .class || ((compEnvC scope cl C env).scope.kind == .module && (compEnvC scope cl C env).locals != (compEnvC scope cl C env).globals)) = false)
    (h : ∀ h', Fr h_b C h' (fun z => if z = x then some v else m z) → News h_b C h' olds → Q () { s with heap := h', toks := s.toks + 1 }) :
    wpAny (model prog w) A (storeName (compEnvC scope cl C env) x v) Q E s :=
  wpAny_storeName_local hy (show s.heap.Ns (compEnvC scope cl C env).locals m from F.ns) (fun h' hn hs => h h' (F.set hn hs) fun q hq => ⟨hs.extBut _ _ (N q hq).2.1 (N q hq).1, (N q hq).2⟩) hp
theorem cc_load {Q : Value → Shared → Prop} (F : Fr h_b C s.heap m) (hv : m x = some v) (h : Q v s)
    (hk : (compEnvC scope cl C env).scope.kind = .function) (hl : (compEnvC scope cl C env).kindOf x = some .local) (hd : (x == ("__debug__" : Str)) = false) :
    wpAny (model prog w) A (eval (.Name x pos) (compEnvC scope cl C env)) Q E s := wpAny_Name (wpAny_loadName_local hk hl (show s.heap.Ns (compEnvC scope cl C env).locals m from F.ns) hv h) hd
theorem cc_cell {Q : Value → Shared → Prop} {o : Obj} (hc : cl.lookup x = some a) (ho : s.heap.get? a = some o) (hd : o.data = .cell (some v)) (h : Q v s)
    (hk : (compEnvC scope cl C env).scope.kind = .function) (hl : (compEnvC scope cl C env).kindOf x = some .cell) (hb : (x == ("__debug__" : Str)) = false) :
    wpAny (model prog w) A (eval (.Name x pos) (compEnvC scope cl C env)) Q E s := wpAny_Name (wpAny_loadName_cell hk hl hc ⟨o, ho, hd⟩ h) hb
theorem cc_built {Q : Value → Shared → Prop} (X : K.In s.heap) (T : TopRead p loose mg mb s.heap) (e : nsIn K mainGlobals x = some none) (hv : bootBuiltins x = some v) (hn : x ≠ "__name__") (h : Q v s) (hg : env.globals = mainGlobals) (hb : env.builtins = builtinsNs)
    (hk : (compEnvC scope cl C env).scope.kind = .function) (hx : (compEnvC scope cl C env).kindOf x = some .globalImplicit) (hd : (x == ("__debug__" : Str)) = false) :
    wpAny (model prog w) A (eval (.Name x pos) (compEnvC scope cl C env)) Q E s :=
  Name_function_global hk hx (loadGlobal_builtin (env := compEnvC scope cl C env) (show s.heap.Ns env.globals mg from hg ▸ T.g) (mg_none_of X T.g e) (show s.heap.Ns env.builtins mb from hb ▸ T.b) ((T.builtins x hn).trans hv) h) hd
end
/-- a comprehension's list, put on the ledger -/
theorem news_new {h₀ h_b h' : Heap} {L D : Addr} {m : Str → Option Value} {o : Obj} {news : List (Addr × Obj)} (F : Fr h₀ L h_b m) (hD : h_b.objs.size ≤ D) (ho : h'.get? D = some o) (N : News h₀ L h' news) : News h₀ L h' ((D, o) :: news) := by
  intro q hq
  rcases List.mem_cons.mp hq with rfl | hq
  · refine ⟨ho, fun e => absurd F.ns.lt (by rw [← e]; exact Nat.not_lt.mpr hD), ?_⟩
    cases e : h₀.get? D with
    | none => rfl
    | some o' => exact absurd (Heap.lt_size (F.keep _ _ e)) (Nat.not_lt.mpr hD)
  · exact N q hq
theorem news_lt {h₀ h_b : Heap} {L D : Addr} {news : List (Addr × Obj)} (N : News h₀ L h_b news) (hD : h_b.objs.size ≤ D) : ∀ q ∈ news, q.1 < D := fun q hq => Nat.lt_of_lt_of_le (Heap.lt_size (N q hq).1) hD
/-- a list's place, set -/
theorem set_at {prog : Program} {w : World} {A : Around} {E : Value → Shared → Prop} {s : Shared} {h₀ : Heap} {L D : Addr} {m : Str → Option Value} {news news' : List (Addr × Obj)} {vs : List Value} {q n : Nat} {t : Tok} {v : Value} {Q : Unit → Shared → Prop}
    (F : Fr h₀ L s.heap m) (N : News h₀ L s.heap news) (U : Upd D (W.listOf vs.toArray n) (W.listOf (vs.set q v).toArray n) news news') (h1 : q < vs.length) (hz : vs.length ≤ 16777216)
    (h : ∀ h', Fr h₀ L h' m → News h₀ L h' news' → Q () { s with heap := h' }) : wpAny (model prog w) A (setItem (.ref D) (.int (q : Nat) t) v) Q E s := by
  obtain ⟨pre, post, rfl, rfl, a, b'⟩ := U.split
  have z := N (D, W.listOf vs.toArray n) (List.mem_append.mpr (.inr (.head _)))
  refine ki_setAt z.1 (by omega) (by omega) (by rw [List.size_toArray]; omega) (h _ (F.change (Heap.SameBut.update ..) z.2.1 z.2.2) (ki_turn _ N a b' ?_ ?_))
  · show vs.toArray.setIfInBounds (q : Int).toNat v = (vs.set q v).toArray
    rw [Int.toNat_natCast]
    apply Array.toList_inj.mp
    simp
  · simp
/-- a list's item -/
theorem list_item {prog : Program} {w : World} {A : Around} {E : Value → Shared → Prop} {s : Shared} {h₀ : Heap} {L D : Addr} {news : List (Addr × Obj)} {vs : List Value} {k : Int} {n : Nat} {u : Tok} {v : Value} {value slice : Expr} {Q : Value → Shared → Prop}
    (N : News h₀ L s.heap news) (hm : (D, W.listOf vs.toArray n) ∈ news) (h0 : 0 ≤ k) (hhi : k < 2 ^ 63) (hx : vs[k.toNat]? = some v) (h : Q v s)
    (hs : subscripted slice false (.ref D) (.int k u) = operate [.ref D, .int k u] (getItem (.ref D) (.int k u))) : wpAny (model prog w) A (subscriptTail value slice (.ref D) (.int k u)) Q E s :=
  tail_any (PySem.IsL.isList (n := n) (N _ hm).1).typeIs slot_list_getitem.lookup (wpAny_getItem_list (PySem.IsL.isList (n := n) (N _ hm).1) h0 hhi (by simpa using hx) h) hs
end Part_cmp

local macro_rules | `(tactic| walk_at "m_len") => `(tactic| with_reducible (first | assumption | exact item_le _ _ | exact slice_len_le _ _ _ | exact Nat.le_refl (Str.length (Str.ofString _)) | (refine' app_le ?p ?q; (case p => walk_at "m_len"); (case q => walk_at "m_len"))))

section Part_drawn
structure DrawnOk (i : Nat) (text : Str) (cuts : List Int) (owed : List Str) : Prop where
  t : okT text
  tl : text.length ≤ 18 + 7 * i
  p : 1 ≤ text.length
  o : ∀ x ∈ owed, okT x ∧ x.length ≤ 7
  ol : owed.length ≤ i
  cl : cuts.length ≤ 2 + i
  c : ∀ x ∈ cuts, 0 ≤ x ∧ x ≤ text.length
  cs : cuts.Pairwise (· ≤ ·)

theorem okT_dec {x : Str} (h : x.cps.toList.all (fun c => signsL.contains c) = true) : okT x := fun c hc => by
  have := List.all_eq_true.mp h c hc
  simpa using this
theorem okT_add {x y : Str} (hx : okT x) (hy : okT y) : okT (x ++ y) := fun c hc => by
  rw [cps_add] at hc
  exact (List.mem_append.mp hc).elim (hx c) (hy c)
theorem okT_slice {x : Str} {l u : Option Int} (hx : okT x) : okT (Txt.slice x l u) := fun c hc => hx c (mem_slice hc)
theorem okT_item {i : Int} (h0 : 0 ≤ i) (h1 : i < 64) : okT (Txt.item signsS i) := by
  obtain ⟨k, rfl⟩ := Int.eq_ofNat_of_zero_le h0
  have hk : k < signsL.length := by rw [signsL_eq]; simp only [List.length_cons, List.length_nil]; omega
  intro c hc
  rw [item_list (x := signsS) (i := k) (c := signsL[k]) (by exact List.getElem?_eq_getElem hk)] at hc
  rw [List.mem_singleton.mp hc]
  exact List.getElem_mem hk
theorem signs_all : signsL.all (fun c => decide (c < 123)) = true := by decide +kernel
theorem okT_lt {x : Str} (h : okT x) : ∀ c ∈ x.cps.toList, c < 123 := fun c hc => of_decide_eq_true (List.all_eq_true.mp signs_all c (h c hc))
theorem strOk_okT {x : Str} (h : okT x) : PyData.strOk x = true := strOk_of fun c hc => by have := okT_lt h c hc; omega

theorem drawn_add {i : Nat} {text : Str} {cuts : List Int} {owed : List Str} (h : DrawnOk i text cuts owed) {y : Str} (hy : okT y) (hl : y.length ≤ 7) : DrawnOk (i + 1) (text ++ y) cuts owed where
  t := okT_add h.t hy
  tl := by have := h.tl; rw [Str.length_append]; omega
  p := by have := h.p; rw [Str.length_append]; omega
  o := h.o
  ol := Nat.le_succ_of_le h.ol
  cl := by have := h.cl; omega
  c := fun x hx => by have := h.c x hx; rw [Str.length_append]; omega
  cs := h.cs
theorem drawn_owe {i : Nat} {text : Str} {cuts : List Int} {owed : List Str} (h : DrawnOk i text cuts owed) {y z : Str} (hy : okT y) (hl : y.length ≤ 7) (hz : okT z) (hl' : z.length ≤ 7) : DrawnOk (i + 1) (text ++ y) cuts (owed ++ [z]) where
  t := okT_add h.t hy
  tl := by have := h.tl; rw [Str.length_append]; omega
  p := by have := h.p; rw [Str.length_append]; omega
  o := fun x hx => by
    rcases List.mem_append.mp hx with hx | hx
    · exact h.o x hx
    · rw [List.mem_singleton.mp hx]; exact ⟨hz, hl'⟩
  ol := by have := h.ol; rw [List.length_append, List.length_singleton]; omega
  cl := by have := h.cl; omega
  c := fun x hx => by have := h.c x hx; rw [Str.length_append]; omega
  cs := h.cs
theorem drawn_pop {i : Nat} {text : Str} {cuts : List Int} {owed : List Str} {y : Str} (h : DrawnOk i text cuts (owed ++ [y])) : DrawnOk (i + 1) (text ++ y) cuts owed where
  t := okT_add h.t (h.o y (by simp)).1
  tl := by have := h.tl; have := (h.o y (by simp)).2; rw [Str.length_append]; omega
  p := by have := h.p; rw [Str.length_append]; omega
  o := fun x hx => h.o x (by simp [hx])
  ol := by have := h.ol; rw [List.length_append, List.length_singleton] at this; omega
  cl := by have := h.cl; omega
  c := fun x hx => by have := h.c x hx; rw [Str.length_append]; omega
  cs := h.cs
theorem drawn_cut {i : Nat} {text : Str} {cuts : List Int} {owed : List Str} (h : DrawnOk i text cuts owed) : DrawnOk (i + 1) text (cuts ++ [(text.length : Int)]) owed where
  t := h.t
  tl := by have := h.tl; omega
  p := h.p
  o := h.o
  ol := Nat.le_succ_of_le h.ol
  cl := by have := h.cl; rw [List.length_append, List.length_singleton]; omega
  c := fun x hx => by
    rcases List.mem_append.mp hx with hx | hx
    · exact h.c x hx
    · rw [List.mem_singleton.mp hx]; omega
  cs := by
    refine List.pairwise_append.mpr ⟨h.cs, List.pairwise_singleton .., fun a ha b hb => ?_⟩
    rw [List.mem_singleton.mp hb]
    exact (h.c a ha).2

theorem drawn_start : DrawnOk 0 (Str.ofString "!x!ununknownknown!") [0, ((18 : Nat) : Int)] [] where
  t := okT_dec (by decide +kernel)
  tl := by decide +kernel
  p := by decide +kernel
  o := fun x hx => nomatch hx
  ol := Nat.le_refl _
  cl := Nat.le_refl _
  c := fun x hx => by
    have e : (Str.ofString "!x!ununknownknown!").length = 18 := by decide +kernel
    rw [e]
    simp only [List.mem_cons, List.not_mem_nil, or_false] at hx
    omega
  cs := by decide
theorem join_ok : ∀ {ys : List Str}, (∀ y ∈ ys, okT y ∧ y.length ≤ 7) → okT (Str.join (Str.ofString "") ys) ∧ (Str.join (Str.ofString "") ys).length ≤ 7 * ys.length
  | [], _ => ⟨fun c hc => by simp [Str.join, Str.empty] at hc, Nat.le_refl _⟩
  | [x], h => ⟨(h x (.head _)).1, by have := (h x (.head _)).2; show x.length ≤ 7 * 1; omega⟩
  | x :: y :: r, h => by
    have ih := join_ok (ys := y :: r) fun z hz => h z (.tail _ hz)
    have hx := h x (.head _)
    show okT (x ++ Str.ofString "" ++ Str.join (Str.ofString "") (y :: r)) ∧ (x ++ Str.ofString "" ++ Str.join (Str.ofString "") (y :: r)).length ≤ 7 * (r.length + 1 + 1)
    refine ⟨okT_add (okT_add hx.1 (okT_dec (by decide +kernel))) ih.1, ?_⟩
    have e : (Str.ofString "").length = 0 := by decide +kernel
    have h2 := ih.2
    rw [List.length_cons] at h2
    rw [Str.length_append, Str.length_append, e]
    omega
theorem bang_list (k : Int) : (Txt.mul (Str.ofString "!") k).cps.toList = List.replicate k.toNat 33 := by
  have e : (Str.ofString "!").cps = #[33] := by decide +kernel
  unfold Txt.mul
  by_cases h1 : k < 1
  · rw [if_pos h1]
    have : k.toNat = 0 := by omega
    rw [this]; rfl
  · rw [if_neg h1]
    by_cases h2 : k = 1
    · subst h2
      rw [if_pos (by rfl), e]; rfl
    · have e2 : (k == 1 || (Str.ofString "!").length == 0) = false := by
        have : (Str.ofString "!").length = 1 := by decide +kernel
        simp [h2, this]
      rw [if_neg (by rw [e2]; exact Bool.false_ne_true), e]
      have aux : ∀ (n : Nat) (acc : Array Nat), (List.foldl (fun x1 x2 => x1 ++ x2) acc (List.replicate n #[33])).toList = acc.toList ++ List.replicate n 33 := by
        intro n
        induction n with
        | zero => intro acc; simp
        | succ n ih => intro acc; rw [List.replicate_succ, List.foldl_cons, ih]; simp [List.replicate_succ]
      have := aux k.toNat #[]
      simpa using this
theorem sg_item {i : Int} {k : Nat} (h : i = k) (hk : k < 64) : (Txt.item signsS i).cps.toList = [sg k] := by
  subst h
  have hl : k < signsL.length := by rw [signsL_eq]; simp only [List.length_cons, List.length_nil]; omega
  rw [item_list (x := signsS) (i := k) (c := signsL[k]) (List.getElem?_eq_getElem hl)]
  unfold sg
  rw [List.getD_eq_getElem?_getD, List.getElem?_eq_getElem hl]; rfl
theorem sg_fmod (x b : Int) (n : Nat) (hb : b = n) (hn : 0 < n) : ∃ k : Nat, x.fmod b = k ∧ k < n := by
  have h1 := Int.fmod_nonneg_of_pos x (b := b) (by omega)
  have h2 := Int.fmod_lt_of_pos x (b := b) (by omega)
  exact ⟨(x.fmod b).toNat, by omega, by omega⟩
theorem tail_none : Tail (Str.ofString "").cps.toList := by
  have e : (Str.ofString "").cps.toList = [] := by decide +kernel
  rw [e]; exact .none
theorem tail_duo (x y z : Int) : Tail (Txt.item signsS (x.fmod 64) ++ Txt.item signsS (y.fmod 64) ++ Txt.item signsS (z.fmod 16 * 4) ++ Str.ofString "=").cps.toList := by
  obtain ⟨a, ha, ha'⟩ := sg_fmod x 64 64 rfl (by decide)
  obtain ⟨b, hb, hb'⟩ := sg_fmod y 64 64 rfl (by decide)
  obtain ⟨c, hc, hc'⟩ := sg_fmod z 16 16 rfl (by decide)
  have e : (Str.ofString "=").cps.toList = [61] := by decide +kernel
  have hc2 : z.fmod 16 * 4 = ((c * 4 : Nat) : Int) := by omega
  rw [cps_add, cps_add, cps_add, sg_item ha ha', sg_item hb hb', sg_item hc2 (by omega), e]
  exact .duo a b c ha' hb' hc'
theorem tail_lone (x y : Int) : Tail (Txt.item signsS (x.fmod 64) ++ Txt.item signsS (y.fmod 4 * 16) ++ Str.ofString "==").cps.toList := by
  obtain ⟨a, ha, ha'⟩ := sg_fmod x 64 64 rfl (by decide)
  obtain ⟨b, hb, hb'⟩ := sg_fmod y 4 4 rfl (by decide)
  have e : (Str.ofString "==").cps.toList = [61, 61] := by decide +kernel
  have hb2 : y.fmod 4 * 16 = ((b * 16 : Nat) : Int) := by omega
  rw [cps_add, cps_add, sg_item ha ha', sg_item hb2 (by omega), e]
  exact .lone a b ha' hb'
theorem tail_len {l : List Nat} (h : Tail l) : l.length ≤ 4 := by cases h <;> simp
theorem good_page {n : Nat} {text jn tl : Str} {cuts : List Int} {owed : List Str} (h : DrawnOk n text cuts owed) (hn : n ≤ 8) (hj : okT jn) (hjl : jn.length ≤ 56) (ht : Tail tl.cps.toList) :
    GoodPage (text ++ jn ++ Txt.mul (Str.ofString "!") ((-((text ++ jn).length : Int)).fmod 4) ++ tl) cuts := by
  obtain ⟨k, hk, hk'⟩ := sg_fmod (-((text ++ jn).length : Int)) 4 4 rfl (by decide)
  have hkm : ((text ++ jn).length + k) % 4 = 0 := by
    have h1 := Int.fmod_add_mul_fdiv (-((text ++ jn).length : Int)) 4
    rw [hk] at h1
    omega
  have hm : (Txt.mul (Str.ofString "!") ((-((text ++ jn).length : Int)).fmod 4)).cps.toList = List.replicate k 33 := by
    rw [bang_list, hk]; rfl
  generalize Txt.mul (Str.ofString "!") ((-((text ++ jn).length : Int)).fmod 4) = mu at hm
  have hlen : (text ++ jn ++ mu ++ tl).length = text.length + jn.length + k + tl.cps.toList.length := by
    rw [Str.length_append, Str.length_append, Str.length_append, len_list mu, hm, List.length_replicate, len_list tl]
  have hmem : (33 : Nat) ∈ signsL := by rw [signsL_eq]; decide
  have htl := h.tl
  have hp := h.p
  have htt := tail_len ht
  refine ⟨⟨(text ++ jn).cps.toList ++ List.replicate k 33, tl.cps.toList, ?_, ?_, ?_, ht⟩, ?_, ?_, ?_, h.cs, ?_⟩
  · rw [cps_add, cps_add, hm]
  · rw [List.length_append, List.length_replicate, ← len_list]; exact hkm
  · intro c hc
    rcases List.mem_append.mp hc with hc | hc
    · exact okT_add h.t hj c hc
    · rw [(List.mem_replicate.mp hc).2]; exact hmem
  · rw [hlen]; omega
  · rw [hlen]; omega
  · intro x hx
    have := h.c x hx
    rw [hlen]; omega
  · have := h.cl; omega
section
theorem lit_len_7 : (Str.ofString "unknown").length = 7 := by decide +kernel
theorem lit_star : (Str.ofString "*").length = 1 := by decide +kernel
theorem lit_bang : (Str.ofString "!").length = 1 := by decide +kernel
theorem lit_bs : (Str.ofString "!*").length = 2 := by decide +kernel
theorem lit_sbb : (Str.ofString "*!!").length = 3 := by decide +kernel
theorem bang_le (k : Int) : (Txt.mul (Str.ofString "!") (k.fmod 4)).length ≤ 3 := by
  rw [len_list, bang_list, List.length_replicate]
  have := Int.fmod_lt_of_pos k (b := 4) (by decide)
  omega
local macro_rules | `(tactic| walk_at "m_len") => `(tactic| with_reducible (exact bang_le _))
theorem ne_strs_ok {prog : Program} {w : World} {A : Around} {E : Value → Shared → Prop} {s : Shared} {h₀ : Heap} {L a b : Addr} {news : List (Addr × Obj)} {xs : List Value} {k k' : Nat} {ns : List Str} {Q : Value → Shared → Prop}
    (N : News h₀ L s.heap news) (ha : (a, W.listOf xs.toArray k) ∈ news) (hb : (b, W.listOf #[] k') ∈ news) (hi : StrsAre xs ns) (ho : ∀ x ∈ ns, okT x ∧ x.length ≤ 7) (hu : A.units + 64 < cLine) (h : Q (.bool (!decide (ns = []))) s) :
    wpAny (model prog w) A (compareOp .NotEq (.ref a) (.ref b)) Q E s :=
  ne_strs (xs := xs) (ys := []) ⟨_, (N _ ha).1, rfl, _, rfl⟩ ⟨_, (N _ hb).1, rfl, _, rfl⟩ hi .nil (fun x hx => strOk_okT (ho x hx).1) (fun x hx => nomatch hx) hu h
theorem pop_snoc {prog : Program} {w : World} {A : Around} {E : Value → Shared → Prop} {s : Shared} {h₀ : Heap} {L D : Addr} {m : Str → Option Value} {news news' : List (Addr × Obj)} {us : List Value} {y : Value} {n : Nat} {Q : Value → Shared → Prop}
    (F : Fr h₀ L s.heap m) (N : News h₀ L s.heap news) (U : Upd D (W.listOf (us ++ [y]).toArray n) (W.listOf us.toArray (n + 1)) news news') (hz : (us ++ [y]).length ≤ 16777216)
    (h : ∀ h', Fr h₀ L h' m → News h₀ L h' news' → Q y { s with heap := h' }) : wpAny (model prog w) A (call (.builtin "list.pop") [.ref D]) Q E s :=
  kl_pop F N (kpa_last y us) U (size_ok hz) h
section
variable {w : World} {A : Around} {s : Shared} {R : Result → Shared → Prop} {p : Program} {loose : List Str} {mean : ExcName → Option Value} {mg mb : Str → Option Value}
set_option maxHeartbeats 8000000 in
theorem drawn_call {l : Addr} {vs : List Value} {ns : List Int} {total : Int} {tt : Tok}
  (X : (hk.heap_1 w.params).In s.heap) (T : Top p loose mean mg mb s.heap) (hA : A.depth < 450) (hU : A.units + 100 < cLine) (hh : A.handled = none) (hl : s.heap.IsList l vs.toArray) (hi : IntsAre vs ns) (hlen : ns.length ≤ 8)
  (hR : ∀ h' tk a page tp ac cvs ck cuts, GoodPage page cuts → IntsAre cvs cuts → Stays s.heap h' → s.heap.get? a = none → s.heap.get? ac = none →
    h'.get? a = some { cls := .type "tuple", data := .seq #[.str page tp, .ref ac] } → h'.get? ac = some (W.listOf cvs.toArray ck) → R (.ok (.ret (.ref a))) { s with heap := h', toks := tk }) :
  codeAny (model lw.row.prog w) A (.call (.ref 86) ⟨[.ref l, .int total tt], []⟩) R s := by
  revert X
  k_fill
  intro X
  w_strict (
   w_top off
   refine' callOwn (binds := [(Str.ofString "numbers", .ref l), (Str.ofString "total", .int total tt)]) ?k1 ?k2 ?k3 ?k4 ?k5 ?k6 ?k7 ?_ ?c1 ?c2 ?c3 ?c4
   (case k1 => exact X)
   (case k2 => exact T.nolimit)
   (case k3 => k_is)
   (case k4 => k_is)
   (case k5 => show A.depth < 1000; omega)
   (case k6 => exact BindsTo.of_eq rfl)
   (case k7 => exact locs rfl)
   (case c1 => exact rfl)
   (case c2 => exact rfl)
   (case c3 => exact rfl)
   (case c4 => decide)
   intro h₁ F
   have N : News s.heap s.heap.objs.size h₁ [] := News.nil
   (try dsimp only); (try k_fold)
   repeat' (first | (k_unfold; (try dsimp only)) | ((with_reducible show wpAny _ _ (execs (_ :: _) _) _ _ _); refine execs_hide ?_; intro Qk9 kH9; (try dsimp only)) | ((with_reducible rename Hid _ _ _ => kH9); first | (refine hid_next kH9 ?_; clear kH9; (try clear Qk9)) | (refine hid_other kH9 (by nofun) ?_; clear kH9; (try clear Qk9)); (try dsimp only)) | ((with_reducible show wpAny _ _ (compareOp CmpOp.NotEq (Value.ref _) (Value.ref _)) _ _ _); k_dflt (refine ne_strs_ok (by k_asm) (by k_mem) (by k_mem) (by assumption) (by assumption) (by show _ + 3 + 64 < cLine; omega) ?_)) | ((with_reducible show wpAny _ _ (binaryOp Operator.Add (Value.str _ _) (Value.str _ _)) _ _ _); k_dflt (refine SB.add ?_ (add_fits (by walk_at "m_len") (by walk_at "m_len") (by decide +kernel)); intro _ _; (try dsimp only))) | ((with_reducible show wpAny _ _ (call (Value.builtin "len") [Value.str _ _]) _ _ _); k_dflt (refine len_str_ok (Nat.le_trans (by walk_at "m_len") (by decide +kernel)) ?_; (try dsimp only))) | ((with_reducible show wpAny _ _ (call (Value.builtin "list.append") [Value.ref _, _]) _ _ _); k_dflt (refine append_K (by k_asm) (by k_asm) (by k_upd) ?_ (by refine size_ok ?_; (try simp only [List.size_toArray]); omega); k_whole); intro _ _ _; (try k_sweep)) | ((with_reducible show wpAny _ _ (storeName (compEnvC _ _ _ _) _ _) _ _ _); k_dflt (refine cc_store (by assumption) (by assumption) (by exact rfl) (by exact rfl) ?_); intro _ _ _; (try k_sweep)) | ((with_reducible show wpAny _ _ (eval (Expr.Name _ _) (compEnvC _ _ _ _)) _ _ _); k_dflt (refine cc_load (by assumption) (by exact rfl) ?_ (by exact rfl) (by exact rfl) (by exact rfl))) | ((with_reducible show wpAny _ _ _ _ _ _); (fail_if_success (with_reducible first | show wpAny _ _ (exec (Stmt.For _ _ _ _ _) _) _ _ _ | show wpAny _ _ (exec (Stmt.While _ _ _ _) _) _ _ _ | show wpAny _ _ (pyIter _) _ _ _ | show wpAny _ _ (call (Value.builtin "list.pop") _ _) _ _ _ | show wpAny _ _ (call (Value.builtin "str.join") _ _) _ _ _ | show wpAny _ _ (call (Value.builtin "max") _ _) _ _ _ | show wpAny _ _ (setItem _ _ _) _ _ _ | show wpAny _ _ (call (Value.builtin "str.replace") _ _) _ _ _ | show wpAny _ _ (call (Value.builtin "str.split") _ _) _ _ _ | show wpAny _ _ (call (Value.ref _) _ _) _ _ _ | show wpAny _ _ (eval (Expr.ListComp _ _ _ _) _) _ _ _ | show wpAny _ _ (exec (Stmt.Assign _ (Expr.ListComp _ _ _ _) _) _) _ _ _)); first | walk1 | (dsimp only; walk1)) | ((with_reducible show Frag.In _ _ ∧ _); (refine ⟨by k_in, ?_⟩); (try dsimp only [List.nil_append, List.cons_append])) | ((with_reducible show (if _ then _ else _)); walk1))
   refine wpAny_call (signs_call (X.keeps F.keep) (T.nolimit.keeps F.keep) ?_ ?_)
   · show A.depth + 1 < 1000; omega
   intro h₂ tk₂ t₂ st₂
   replace F := fr_stays F st₂
   replace N := news_stays N st₂
   dsimp only
   repeat' (first | (k_unfold; (try dsimp only)) | ((with_reducible show wpAny _ _ (execs (_ :: _) _) _ _ _); refine execs_hide ?_; intro Qk9 kH9; (try dsimp only)) | ((with_reducible rename Hid _ _ _ => kH9); first | (refine hid_next kH9 ?_; clear kH9; (try clear Qk9)) | (refine hid_other kH9 (by nofun) ?_; clear kH9; (try clear Qk9)); (try dsimp only)) | ((with_reducible show wpAny _ _ (compareOp CmpOp.NotEq (Value.ref _) (Value.ref _)) _ _ _); k_dflt (refine ne_strs_ok (by k_asm) (by k_mem) (by k_mem) (by assumption) (by assumption) (by show _ + 3 + 64 < cLine; omega) ?_)) | ((with_reducible show wpAny _ _ (binaryOp Operator.Add (Value.str _ _) (Value.str _ _)) _ _ _); k_dflt (refine SB.add ?_ (add_fits (by walk_at "m_len") (by walk_at "m_len") (by decide +kernel)); intro _ _; (try dsimp only))) | ((with_reducible show wpAny _ _ (call (Value.builtin "len") [Value.str _ _]) _ _ _); k_dflt (refine len_str_ok (Nat.le_trans (by walk_at "m_len") (by decide +kernel)) ?_; (try dsimp only))) | ((with_reducible show wpAny _ _ (call (Value.builtin "list.append") [Value.ref _, _]) _ _ _); k_dflt (refine append_K (by k_asm) (by k_asm) (by k_upd) ?_ (by refine size_ok ?_; (try simp only [List.size_toArray]); omega); k_whole); intro _ _ _; (try k_sweep)) | ((with_reducible show wpAny _ _ (storeName (compEnvC _ _ _ _) _ _) _ _ _); k_dflt (refine cc_store (by assumption) (by assumption) (by exact rfl) (by exact rfl) ?_); intro _ _ _; (try k_sweep)) | ((with_reducible show wpAny _ _ (eval (Expr.Name _ _) (compEnvC _ _ _ _)) _ _ _); k_dflt (refine cc_load (by assumption) (by exact rfl) ?_ (by exact rfl) (by exact rfl) (by exact rfl))) | ((with_reducible show wpAny _ _ _ _ _ _); (fail_if_success (with_reducible first | show wpAny _ _ (exec (Stmt.For _ _ _ _ _) _) _ _ _ | show wpAny _ _ (exec (Stmt.While _ _ _ _) _) _ _ _ | show wpAny _ _ (pyIter _) _ _ _ | show wpAny _ _ (call (Value.builtin "list.pop") _ _) _ _ _ | show wpAny _ _ (call (Value.builtin "str.join") _ _) _ _ _ | show wpAny _ _ (call (Value.builtin "max") _ _) _ _ _ | show wpAny _ _ (setItem _ _ _) _ _ _ | show wpAny _ _ (call (Value.builtin "str.replace") _ _) _ _ _ | show wpAny _ _ (call (Value.builtin "str.split") _ _) _ _ _ | show wpAny _ _ (call (Value.ref _) _ _) _ _ _ | show wpAny _ _ (eval (Expr.ListComp _ _ _ _) _) _ _ _ | show wpAny _ _ (exec (Stmt.Assign _ (Expr.ListComp _ _ _ _) _) _) _ _ _)); first | walk1 | (dsimp only; walk1)) | ((with_reducible show Frag.In _ _ ∧ _); (refine ⟨by k_in, ?_⟩); (try dsimp only [List.nil_append, List.cons_append])) | ((with_reducible show (if _ then _ else _)); walk1))
   refine for_inv (h₀ := s.heap) ?_
   repeat' (first | (k_unfold; (try dsimp only)) | ((with_reducible show wpAny _ _ (execs (_ :: _) _) _ _ _); refine execs_hide ?_; intro Qk9 kH9; (try dsimp only)) | ((with_reducible rename Hid _ _ _ => kH9); first | (refine hid_next kH9 ?_; clear kH9; (try clear Qk9)) | (refine hid_other kH9 (by nofun) ?_; clear kH9; (try clear Qk9)); (try dsimp only)) | ((with_reducible show wpAny _ _ (compareOp CmpOp.NotEq (Value.ref _) (Value.ref _)) _ _ _); k_dflt (refine ne_strs_ok (by k_asm) (by k_mem) (by k_mem) (by assumption) (by assumption) (by show _ + 3 + 64 < cLine; omega) ?_)) | ((with_reducible show wpAny _ _ (binaryOp Operator.Add (Value.str _ _) (Value.str _ _)) _ _ _); k_dflt (refine SB.add ?_ (add_fits (by walk_at "m_len") (by walk_at "m_len") (by decide +kernel)); intro _ _; (try dsimp only))) | ((with_reducible show wpAny _ _ (call (Value.builtin "len") [Value.str _ _]) _ _ _); k_dflt (refine len_str_ok (Nat.le_trans (by walk_at "m_len") (by decide +kernel)) ?_; (try dsimp only))) | ((with_reducible show wpAny _ _ (call (Value.builtin "list.append") [Value.ref _, _]) _ _ _); k_dflt (refine append_K (by k_asm) (by k_asm) (by k_upd) ?_ (by refine size_ok ?_; (try simp only [List.size_toArray]); omega); k_whole); intro _ _ _; (try k_sweep)) | ((with_reducible show wpAny _ _ (storeName (compEnvC _ _ _ _) _ _) _ _ _); k_dflt (refine cc_store (by assumption) (by assumption) (by exact rfl) (by exact rfl) ?_); intro _ _ _; (try k_sweep)) | ((with_reducible show wpAny _ _ (eval (Expr.Name _ _) (compEnvC _ _ _ _)) _ _ _); k_dflt (refine cc_load (by assumption) (by exact rfl) ?_ (by exact rfl) (by exact rfl) (by exact rfl))) | ((with_reducible show wpAny _ _ _ _ _ _); (fail_if_success (with_reducible first | show wpAny _ _ (exec (Stmt.For _ _ _ _ _) _) _ _ _ | show wpAny _ _ (exec (Stmt.While _ _ _ _) _) _ _ _ | show wpAny _ _ (pyIter _) _ _ _ | show wpAny _ _ (call (Value.builtin "list.pop") _ _) _ _ _ | show wpAny _ _ (call (Value.builtin "str.join") _ _) _ _ _ | show wpAny _ _ (call (Value.builtin "max") _ _) _ _ _ | show wpAny _ _ (setItem _ _ _) _ _ _ | show wpAny _ _ (call (Value.builtin "str.replace") _ _) _ _ _ | show wpAny _ _ (call (Value.builtin "str.split") _ _) _ _ _ | show wpAny _ _ (call (Value.ref _) _ _) _ _ _ | show wpAny _ _ (eval (Expr.ListComp _ _ _ _) _) _ _ _ | show wpAny _ _ (exec (Stmt.Assign _ (Expr.ListComp _ _ _ _) _) _) _ _ _)); first | walk1 | (dsimp only; walk1)) | ((with_reducible show Frag.In _ _ ∧ _); (refine ⟨by k_in, ?_⟩); (try dsimp only [List.nil_append, List.cons_append])) | ((with_reducible show (if _ then _ else _)); walk1))
   rename_i hc hb ac ha _ h5 ao h6 lt h7 F N
   refine iter_list (fun i g m₁ news₁ => ∃ text tx cuts cvs ck owed ovs ok', (∀ q ∈ [(Str.ofString "signs", Value.str signsS t₂), (Str.ofString "text", .str text tx), (Str.ofString "cuts", .ref ac), (Str.ofString "owed", .ref ao), (Str.ofString "total", .int total tt)], m₁ q.1 = some q.2) ∧
      news₁ = [(ao, W.listOf ovs.toArray ok'), (ac, W.listOf cvs.toArray ck)] ∧ IntsAre cvs cuts ∧ StrsAre ovs owed ∧ g = s.gens ∧ DrawnOk i text cuts owed) hh (hl.at fun o e => F.keep _ _ e) (.inl (let ⟨o, ho, _⟩ := hl; ⟨o, ho⟩)) F N ?_ ?_ ?_
   · exact ⟨_, _, _, _, _, _, _, _, by kst_all, rfl, .cons _ _ (.cons _ _ .nil), .nil, rfl, drawn_start⟩
   · rintro I i v m₁ news₁ g h tk oI hin hv ⟨text, tx, cuts, cvs, ck, owed, ovs, ok', hm, rfl, hci, hos, rfl, hok⟩ hoff htk F₁ N₁
     obtain ⟨n, t, rfl⟩ : ∃ n t, v = .int n t := by
       obtain ⟨n, hn⟩ : ∃ n, ns[i]? = some n := ⟨ns[i]'(by rw [← hi.length]; simpa using hin), List.getElem?_eq_getElem _⟩
       obtain ⟨t, ht⟩ := hi.get i n hn
       rw [List.getElem?_toArray, ht] at hv
       exact ⟨n, t, (Option.some.inj hv).symm⟩
     have hi8 : i < 8 := by
       have h1 := hi.length
       rw [List.size_toArray] at hin
       omega
     replace F₁ := fr_kst _ F₁ hm
     simp only [kstB] at F₁
     change Fr s.heap s.heap.objs.size h _ at F₁
     change News s.heap s.heap.objs.size h _ at N₁
     have hoff1 := neN (hoff _ (.head _))
     have hoff2 := neN (hoff _ (.tail _ (.head _)))
     dsimp only at hoff1 hoff2
     have htl : text.length ≤ 74 := by have := hok.tl; omega
     have hoo := hok.o
     have hcl : cvs.length ≤ 2 + i := by rw [hci.length]; exact hok.cl
     have hol : ovs.length ≤ i := by rw [strs_len hos]; exact hok.ol
     have hoffA : ∀ ov ok cv ck, ∀ p ∈ [(ao, W.listOf ov ok), (ac, W.listOf cv ck)], p.1 ≠ I := by
       intro ov ok cv ck p hp
       rcases List.mem_cons.mp hp with rfl | hp
       · exact hoff1
       · rw [List.mem_singleton.mp hp]; exact hoff2
     clear hm hoff F N
     (try k_fold)
     repeat' (first | (k_unfold; (try dsimp only)) | ((with_reducible show wpAny _ _ (execs (_ :: _) _) _ _ _); refine execs_hide ?_; intro Qk9 kH9; (try dsimp only)) | ((with_reducible rename Hid _ _ _ => kH9); first | (refine hid_next kH9 ?_; clear kH9; (try clear Qk9)) | (refine hid_other kH9 (by nofun) ?_; clear kH9; (try clear Qk9)); (try dsimp only)) | ((with_reducible show wpAny _ _ (compareOp CmpOp.NotEq (Value.ref _) (Value.ref _)) _ _ _); k_dflt (refine ne_strs_ok (by k_asm) (by k_mem) (by k_mem) (by assumption) (by assumption) (by show _ + 3 + 64 < cLine; omega) ?_)) | ((with_reducible show wpAny _ _ (binaryOp Operator.Add (Value.str _ _) (Value.str _ _)) _ _ _); k_dflt (refine SB.add ?_ (add_fits (by walk_at "m_len") (by walk_at "m_len") (by decide +kernel)); intro _ _; (try dsimp only))) | ((with_reducible show wpAny _ _ (call (Value.builtin "len") [Value.str _ _]) _ _ _); k_dflt (refine len_str_ok (Nat.le_trans (by walk_at "m_len") (by decide +kernel)) ?_; (try dsimp only))) | ((with_reducible show wpAny _ _ (call (Value.builtin "list.append") [Value.ref _, _]) _ _ _); k_dflt (refine append_K (by k_asm) (by k_asm) (by k_upd) ?_ (by refine size_ok ?_; (try simp only [List.size_toArray]); omega); k_whole); intro _ _ _; (try k_sweep)) | ((with_reducible show wpAny _ _ (storeName (compEnvC _ _ _ _) _ _) _ _ _); k_dflt (refine cc_store (by assumption) (by assumption) (by exact rfl) (by exact rfl) ?_); intro _ _ _; (try k_sweep)) | ((with_reducible show wpAny _ _ (eval (Expr.Name _ _) (compEnvC _ _ _ _)) _ _ _); k_dflt (refine cc_load (by assumption) (by exact rfl) ?_ (by exact rfl) (by exact rfl) (by exact rfl))) | ((with_reducible show wpAny _ _ _ _ _ _); (fail_if_success (with_reducible first | show wpAny _ _ (exec (Stmt.For _ _ _ _ _) _) _ _ _ | show wpAny _ _ (exec (Stmt.While _ _ _ _) _) _ _ _ | show wpAny _ _ (pyIter _) _ _ _ | show wpAny _ _ (call (Value.builtin "list.pop") _ _) _ _ _ | show wpAny _ _ (call (Value.builtin "str.join") _ _) _ _ _ | show wpAny _ _ (call (Value.builtin "max") _ _) _ _ _ | show wpAny _ _ (setItem _ _ _) _ _ _ | show wpAny _ _ (call (Value.builtin "str.replace") _ _) _ _ _ | show wpAny _ _ (call (Value.builtin "str.split") _ _) _ _ _ | show wpAny _ _ (call (Value.ref _) _ _) _ _ _ | show wpAny _ _ (eval (Expr.ListComp _ _ _ _) _) _ _ _ | show wpAny _ _ (exec (Stmt.Assign _ (Expr.ListComp _ _ _ _) _) _) _ _ _)); first | walk1 | (dsimp only; walk1)) | ((with_reducible show Frag.In _ _ ∧ _); (refine ⟨by k_in, ?_⟩); (try dsimp only [List.nil_append, List.cons_append])) | ((with_reducible show (if _ then _ else _)); walk1))
     · refine ⟨_, _, _, _, [(ao, W.listOf ovs.toArray ok'), (ac, W.listOf cvs.toArray ck)], rfl, by assumption, kst_newsOf (by assumption) (by kst_allIn), hoffA _ _ _ _, _, _, _, _, _, _, _, _, by kst_all, rfl, hci, hos, rfl, drawn_add hok (okT_dec (by decide +kernel)) (Nat.le_of_eq lit_len_7)⟩
     · (try rw [List.push_toArray] at *)
       refine ⟨_, _, _, _, [(ao, W.listOf (ovs ++ [_]).toArray (ok' + 1)), (ac, W.listOf cvs.toArray ck)], rfl, by assumption, kst_newsOf (by assumption) (by kst_allIn), hoffA _ _ _ _, _, _, _, _, _, _, _, _, by kst_all, rfl, hci, StrsAre.append' hos (.cons _ _ .nil), rfl, drawn_owe hok (okT_slice (okT_dec (by decide +kernel))) (slice_len_le _ _ _) (okT_slice (okT_dec (by decide +kernel))) (slice_len_le _ _ _)⟩
     · refine ⟨_, _, _, _, [(ao, W.listOf ovs.toArray ok'), (ac, W.listOf cvs.toArray ck)], rfl, by assumption, kst_newsOf (by assumption) (by kst_allIn), hoffA _ _ _ _, _, _, _, _, _, _, _, _, by kst_all, rfl, hci, hos, rfl, drawn_add hok (okT_dec (by decide +kernel)) (by decide +kernel)⟩
     · obtain ⟨us, y, ty, zs, rfl, rfl, hzs⟩ := strs_snoc hos (by rintro rfl; cases hos; simp_all)
       have hyl := (hoo y (by simp)).2
       k_dflt (refine' pop_snoc ?F ?N ?U ?z ?_; (case F => k_asm); (case N => k_asm); (case U => k_upd); (case z => omega); k_whole)
       intro h' F' N'
       repeat' (first | (k_unfold; (try dsimp only)) | ((with_reducible show wpAny _ _ (execs (_ :: _) _) _ _ _); refine execs_hide ?_; intro Qk9 kH9; (try dsimp only)) | ((with_reducible rename Hid _ _ _ => kH9); first | (refine hid_next kH9 ?_; clear kH9; (try clear Qk9)) | (refine hid_other kH9 (by nofun) ?_; clear kH9; (try clear Qk9)); (try dsimp only)) | ((with_reducible show wpAny _ _ (compareOp CmpOp.NotEq (Value.ref _) (Value.ref _)) _ _ _); k_dflt (refine ne_strs_ok (by k_asm) (by k_mem) (by k_mem) (by assumption) (by assumption) (by show _ + 3 + 64 < cLine; omega) ?_)) | ((with_reducible show wpAny _ _ (binaryOp Operator.Add (Value.str _ _) (Value.str _ _)) _ _ _); k_dflt (refine SB.add ?_ (add_fits (by walk_at "m_len") (by walk_at "m_len") (by decide +kernel)); intro _ _; (try dsimp only))) | ((with_reducible show wpAny _ _ (call (Value.builtin "len") [Value.str _ _]) _ _ _); k_dflt (refine len_str_ok (Nat.le_trans (by walk_at "m_len") (by decide +kernel)) ?_; (try dsimp only))) | ((with_reducible show wpAny _ _ (call (Value.builtin "list.append") [Value.ref _, _]) _ _ _); k_dflt (refine append_K (by k_asm) (by k_asm) (by k_upd) ?_ (by refine size_ok ?_; (try simp only [List.size_toArray]); omega); k_whole); intro _ _ _; (try k_sweep)) | ((with_reducible show wpAny _ _ (storeName (compEnvC _ _ _ _) _ _) _ _ _); k_dflt (refine cc_store (by assumption) (by assumption) (by exact rfl) (by exact rfl) ?_); intro _ _ _; (try k_sweep)) | ((with_reducible show wpAny _ _ (eval (Expr.Name _ _) (compEnvC _ _ _ _)) _ _ _); k_dflt (refine cc_load (by assumption) (by exact rfl) ?_ (by exact rfl) (by exact rfl) (by exact rfl))) | ((with_reducible show wpAny _ _ _ _ _ _); (fail_if_success (with_reducible first | show wpAny _ _ (exec (Stmt.For _ _ _ _ _) _) _ _ _ | show wpAny _ _ (exec (Stmt.While _ _ _ _) _) _ _ _ | show wpAny _ _ (pyIter _) _ _ _ | show wpAny _ _ (call (Value.builtin "list.pop") _ _) _ _ _ | show wpAny _ _ (call (Value.builtin "str.join") _ _) _ _ _ | show wpAny _ _ (call (Value.builtin "max") _ _) _ _ _ | show wpAny _ _ (setItem _ _ _) _ _ _ | show wpAny _ _ (call (Value.builtin "str.replace") _ _) _ _ _ | show wpAny _ _ (call (Value.builtin "str.split") _ _) _ _ _ | show wpAny _ _ (call (Value.ref _) _ _) _ _ _ | show wpAny _ _ (eval (Expr.ListComp _ _ _ _) _) _ _ _ | show wpAny _ _ (exec (Stmt.Assign _ (Expr.ListComp _ _ _ _) _) _) _ _ _)); first | walk1 | (dsimp only; walk1)) | ((with_reducible show Frag.In _ _ ∧ _); (refine ⟨by k_in, ?_⟩); (try dsimp only [List.nil_append, List.cons_append])) | ((with_reducible show (if _ then _ else _)); walk1))
       refine ⟨_, _, _, _, [(ao, W.listOf us.toArray (ok' + 1)), (ac, W.listOf cvs.toArray ck)], rfl, by assumption, kst_newsOf (by assumption) (by kst_allIn), hoffA _ _ _ _, _, _, _, _, _, _, _, _, by kst_all, rfl, hci, hzs, rfl, drawn_pop hok⟩
     · refine ⟨_, _, _, _, [(ao, W.listOf ovs.toArray ok'), (ac, W.listOf cvs.toArray ck)], rfl, by assumption, kst_newsOf (by assumption) (by kst_allIn), hoffA _ _ _ _, _, _, _, _, _, _, _, _, by kst_all, rfl, hci, hos, rfl, drawn_add hok (okT_dec (by decide +kernel)) (by decide +kernel)⟩
     · refine ⟨_, _, _, _, [(ao, W.listOf ovs.toArray ok'), (ac, W.listOf cvs.toArray ck)], rfl, by assumption, kst_newsOf (by assumption) (by kst_allIn), hoffA _ _ _ _, _, _, _, _, _, _, _, _, by kst_all, rfl, hci, hos, rfl, drawn_add hok (okT_dec (by decide +kernel)) (by decide +kernel)⟩
     · refine ⟨_, _, _, _, [(ao, W.listOf ovs.toArray ok'), (ac, W.listOf cvs.toArray ck)], rfl, by assumption, kst_newsOf (by assumption) (by kst_allIn), hoffA _ _ _ _, _, _, _, _, _, _, _, _, by kst_all, rfl, hci, hos, rfl, drawn_add hok (okT_dec (by decide +kernel)) (by decide +kernel)⟩
     · refine ⟨_, _, _, _, [(ao, W.listOf ovs.toArray ok'), (ac, W.listOf cvs.toArray ck)], rfl, by assumption, kst_newsOf (by assumption) (by kst_allIn), hoffA _ _ _ _, _, _, _, _, _, _, _, _, by kst_all, rfl, hci, hos, rfl, drawn_add hok (okT_dec (by decide +kernel)) (by decide +kernel)⟩
     · refine ⟨_, _, _, _, [(ao, W.listOf ovs.toArray ok'), (ac, W.listOf cvs.toArray ck)], rfl, by assumption, kst_newsOf (by assumption) (by kst_allIn), hoffA _ _ _ _, _, _, _, _, _, _, _, _, by kst_all, rfl, hci, hos, rfl, drawn_add hok (okT_item (Int.fmod_nonneg_of_pos _ (by decide)) (Int.fmod_lt_of_pos _ (by decide))) (by rw [item_len]; omega)⟩
     · (try rw [List.push_toArray] at *)
       refine ⟨_, _, _, _, [(ao, W.listOf ovs.toArray ok'), (ac, W.listOf (cvs ++ [_]).toArray (ck + 1))], rfl, by assumption, kst_newsOf (by assumption) (by kst_allIn), hoffA _ _ _ _, _, _, _, _, _, _, _, _, by kst_all, rfl, IntsAre.append hci (.cons _ _ .nil), hos, rfl, drawn_cut hok⟩
   · rintro h' tk g m' news' htk F N ⟨text, tx, cuts, cvs, ck, owed, ovs, ok', hm, rfl, hci, hos, rfl, hok⟩
     have hn8 : vs.toArray.size ≤ 8 := by have h1 := hi.length; rw [List.size_toArray]; omega
     replace F := fr_kst _ F hm
     simp only [kstB] at F
     change Fr s.heap s.heap.objs.size h' _ at F
     change News s.heap s.heap.objs.size h' _ at N
     have htl : text.length ≤ 74 := by have := hok.tl; omega
     have hoo := hok.o
     have hcl : cvs.length ≤ 2 + vs.toArray.size := by rw [hci.length]; exact hok.cl
     have hol : ovs.length ≤ vs.toArray.size := by rw [strs_len hos]; exact hok.ol
     clear hm
     dsimp only
     (try k_fold)
     repeat' (first | (k_unfold; (try dsimp only)) | ((with_reducible show wpAny _ _ (execs (_ :: _) _) _ _ _); refine execs_hide ?_; intro Qk9 kH9; (try dsimp only)) | ((with_reducible rename Hid _ _ _ => kH9); first | (refine hid_next kH9 ?_; clear kH9; (try clear Qk9)) | (refine hid_other kH9 (by nofun) ?_; clear kH9; (try clear Qk9)); (try dsimp only)) | ((with_reducible show wpAny _ _ (compareOp CmpOp.NotEq (Value.ref _) (Value.ref _)) _ _ _); k_dflt (refine ne_strs_ok (by k_asm) (by k_mem) (by k_mem) (by assumption) (by assumption) (by show _ + 3 + 64 < cLine; omega) ?_)) | ((with_reducible show wpAny _ _ (binaryOp Operator.Add (Value.str _ _) (Value.str _ _)) _ _ _); k_dflt (refine SB.add ?_ (add_fits (by walk_at "m_len") (by walk_at "m_len") (by decide +kernel)); intro _ _; (try dsimp only))) | ((with_reducible show wpAny _ _ (call (Value.builtin "len") [Value.str _ _]) _ _ _); k_dflt (refine len_str_ok (Nat.le_trans (by walk_at "m_len") (by decide +kernel)) ?_; (try dsimp only))) | ((with_reducible show wpAny _ _ (call (Value.builtin "list.append") [Value.ref _, _]) _ _ _); k_dflt (refine append_K (by k_asm) (by k_asm) (by k_upd) ?_ (by refine size_ok ?_; (try simp only [List.size_toArray]); omega); k_whole); intro _ _ _; (try k_sweep)) | ((with_reducible show wpAny _ _ (storeName (compEnvC _ _ _ _) _ _) _ _ _); k_dflt (refine cc_store (by assumption) (by assumption) (by exact rfl) (by exact rfl) ?_); intro _ _ _; (try k_sweep)) | ((with_reducible show wpAny _ _ (eval (Expr.Name _ _) (compEnvC _ _ _ _)) _ _ _); k_dflt (refine cc_load (by assumption) (by exact rfl) ?_ (by exact rfl) (by exact rfl) (by exact rfl))) | ((with_reducible show wpAny _ _ _ _ _ _); (fail_if_success (with_reducible first | show wpAny _ _ (exec (Stmt.For _ _ _ _ _) _) _ _ _ | show wpAny _ _ (exec (Stmt.While _ _ _ _) _) _ _ _ | show wpAny _ _ (pyIter _) _ _ _ | show wpAny _ _ (call (Value.builtin "list.pop") _ _) _ _ _ | show wpAny _ _ (call (Value.builtin "str.join") _ _) _ _ _ | show wpAny _ _ (call (Value.builtin "max") _ _) _ _ _ | show wpAny _ _ (setItem _ _ _) _ _ _ | show wpAny _ _ (call (Value.builtin "str.replace") _ _) _ _ _ | show wpAny _ _ (call (Value.builtin "str.split") _ _) _ _ _ | show wpAny _ _ (call (Value.ref _) _ _) _ _ _ | show wpAny _ _ (eval (Expr.ListComp _ _ _ _) _) _ _ _ | show wpAny _ _ (exec (Stmt.Assign _ (Expr.ListComp _ _ _ _) _) _) _ _ _)); first | walk1 | (dsimp only; walk1)) | ((with_reducible show Frag.In _ _ ∧ _); (refine ⟨by k_in, ?_⟩); (try dsimp only [List.nil_append, List.cons_append])) | ((with_reducible show (if _ then _ else _)); walk1))
     rename_i F' N'
     dsimp only at N'
     rw [krv_pick] at N'
     refine join_strs (vs := ovs.reverse) 7 ⟨_, (N' _ (.head _)).1, rfl, _, rfl⟩ (strs_rev hos) (fun y hy => (hoo y (List.mem_reverse.mp hy)).2) ?_ ?_
     · have e : (Str.ofString "").length = 0 := by decide +kernel
       rw [e, List.length_reverse, ← strs_len hos]
       omega
     intro tj kj
     have hj := join_ok (ys := owed.reverse) fun y hy => hoo y (List.mem_reverse.mp hy)
     rw [List.length_reverse, ← strs_len hos] at hj
     generalize Str.join (Str.ofString "") owed.reverse = jn at hj
     have hjl : jn.length ≤ 56 := by have := hj.2; omega
     dsimp only
     replace N := kst_newsOf (l' := [(ac, W.listOf cvs.toArray ck)]) N' (by kst_allIn)
     clear N'
     repeat' (first | (k_unfold; (try dsimp only)) | ((with_reducible show wpAny _ _ (execs (_ :: _) _) _ _ _); refine execs_hide ?_; intro Qk9 kH9; (try dsimp only)) | ((with_reducible rename Hid _ _ _ => kH9); first | (refine hid_next kH9 ?_; clear kH9; (try clear Qk9)) | (refine hid_other kH9 (by nofun) ?_; clear kH9; (try clear Qk9)); (try dsimp only)) | ((with_reducible show wpAny _ _ (compareOp CmpOp.NotEq (Value.ref _) (Value.ref _)) _ _ _); k_dflt (refine ne_strs_ok (by k_asm) (by k_mem) (by k_mem) (by assumption) (by assumption) (by show _ + 3 + 64 < cLine; omega) ?_)) | ((with_reducible show wpAny _ _ (binaryOp Operator.Add (Value.str _ _) (Value.str _ _)) _ _ _); k_dflt (refine SB.add ?_ (add_fits (by walk_at "m_len") (by walk_at "m_len") (by decide +kernel)); intro _ _; (try dsimp only))) | ((with_reducible show wpAny _ _ (call (Value.builtin "len") [Value.str _ _]) _ _ _); k_dflt (refine len_str_ok (Nat.le_trans (by walk_at "m_len") (by decide +kernel)) ?_; (try dsimp only))) | ((with_reducible show wpAny _ _ (call (Value.builtin "list.append") [Value.ref _, _]) _ _ _); k_dflt (refine append_K (by k_asm) (by k_asm) (by k_upd) ?_ (by refine size_ok ?_; (try simp only [List.size_toArray]); omega); k_whole); intro _ _ _; (try k_sweep)) | ((with_reducible show wpAny _ _ (storeName (compEnvC _ _ _ _) _ _) _ _ _); k_dflt (refine cc_store (by assumption) (by assumption) (by exact rfl) (by exact rfl) ?_); intro _ _ _; (try k_sweep)) | ((with_reducible show wpAny _ _ (eval (Expr.Name _ _) (compEnvC _ _ _ _)) _ _ _); k_dflt (refine cc_load (by assumption) (by exact rfl) ?_ (by exact rfl) (by exact rfl) (by exact rfl))) | ((with_reducible show wpAny _ _ _ _ _ _); (fail_if_success (with_reducible first | show wpAny _ _ (exec (Stmt.For _ _ _ _ _) _) _ _ _ | show wpAny _ _ (exec (Stmt.While _ _ _ _) _) _ _ _ | show wpAny _ _ (pyIter _) _ _ _ | show wpAny _ _ (call (Value.builtin "list.pop") _ _) _ _ _ | show wpAny _ _ (call (Value.builtin "str.join") _ _) _ _ _ | show wpAny _ _ (call (Value.builtin "max") _ _) _ _ _ | show wpAny _ _ (setItem _ _ _) _ _ _ | show wpAny _ _ (call (Value.builtin "str.replace") _ _) _ _ _ | show wpAny _ _ (call (Value.builtin "str.split") _ _) _ _ _ | show wpAny _ _ (call (Value.ref _) _ _) _ _ _ | show wpAny _ _ (eval (Expr.ListComp _ _ _ _) _) _ _ _ | show wpAny _ _ (exec (Stmt.Assign _ (Expr.ListComp _ _ _ _) _) _) _ _ _)); first | walk1 | (dsimp only; walk1)) | ((with_reducible show Frag.In _ _ ∧ _); (refine ⟨by k_in, ?_⟩); (try dsimp only [List.nil_append, List.cons_append])) | ((with_reducible show (if _ then _ else _)); walk1))
     · rename_i F' N' _
       exact hR _ _ _ _ _ _ _ _ _ (good_page hok hn8 hj.1 hjl tail_none) hci F'.keep (N' _ (.head _)).2.2 (N' (ac, _) (by k_mem)).2.2 (N' _ (.head _)).1 (N' (ac, _) (by k_mem)).1
     · rename_i F' N' _
       exact hR _ _ _ _ _ _ _ _ _ (good_page hok hn8 hj.1 hjl (tail_duo _ _ _)) hci F'.keep (N' _ (.head _)).2.2 (N' (ac, _) (by k_mem)).2.2 (N' _ (.head _)).1 (N' (ac, _) (by k_mem)).1
     · rename_i F' N' _
       exact hR _ _ _ _ _ _ _ _ _ (good_page hok hn8 hj.1 hjl (tail_lone _ _)) hci F'.keep (N' _ (.head _)).2.2 (N' (ac, _) (by k_mem)).2.2 (N' _ (.head _)).1 (N' (ac, _) (by k_mem)).1)
end
end
end Part_drawn

section Part_oct
section
open Builtin Builtin.Str
theorem index_char {x : Str} {c : Nat} (h : c ∈ x.cps.toList) : ∃ rest, occurrences x ⟨#[c]⟩ 0 x.length 1 = x.cps.toList.idxOf c :: rest := by
  rcases StrLaws.occ_head x ⟨#[c]⟩ 1 (Nat.le_refl _) with ⟨_, hn⟩ | ⟨i, r, e, ha, hn⟩
  · obtain ⟨i, hi⟩ := List.getElem?_of_mem h
    exact absurd ((StrLaws.subAt_one x c i).mpr hi) (hn i)
  · refine ⟨r, ?_⟩
    rw [e]
    have h1 := (StrLaws.subAt_one x c i).mp ha
    have h2 : ∀ k, k < i → x.cps.toList[k]? ≠ some c := fun k hk hc => hn k hk ((StrLaws.subAt_one x c k).mpr hc)
    have h3 : x.cps.toList.idxOf c = i := by
      have hlt : i < x.cps.toList.length := (List.getElem?_eq_some_iff.mp h1).1
      have hle : x.cps.toList.idxOf c ≤ i := by
        apply Nat.le_of_not_lt
        intro hlt'
        have := List.not_of_lt_findIdx (p := fun y => y == c) hlt'
        have h4 : x.cps.toList[i] = c := (List.getElem?_eq_some_iff.mp h1).2
        simp [h4] at this
      apply Nat.le_antisymm hle
      apply Nat.le_of_not_lt
      intro hlt'
      have h5 : x.cps.toList.idxOf c < x.cps.toList.length := Nat.lt_of_le_of_lt hle hlt
      have h6 : x.cps.toList[x.cps.toList.idxOf c] = c := List.getElem_idxOf h5
      exact h2 _ hlt' (by rw [List.getElem?_eq_getElem h5, h6])
    rw [h3]
end
section
theorem index_ok {prog : Program} {w : World} {A : Around} {E : Value → Shared → Prop} {s : Shared} {x : Str} {t u : Tok} {c : Nat} {Q : Value → Shared → Prop} (hc : c ∈ x.cps.toList)
    (h : Q (.int (x.cps.toList.idxOf c : Nat) s.toks) { s with toks := s.toks + 1 }) : wpAny (model prog w) A (call (.builtin "str.index") [.str x t, .str ⟨#[c]⟩ u]) Q E s := by
  obtain ⟨r, e⟩ := index_char hc
  exact SC.index e h
theorem page_mem {text : Str} {cuts : List Int} (hg : GoodPage text cuts) : ∀ c ∈ text.cps.toList, c ∈ ixL := by
  obtain ⟨body, tail, eT, hb4, hbs, hta⟩ := hg.form
  intro c hc
  rw [eT] at hc
  have hs : ∀ k, k < 64 → sg k ∈ ixL := fun k hk => by
    have hl : k < signsL.length := by rw [signsL_eq]; simp only [List.length_cons, List.length_nil]; omega
    unfold sg
    rw [List.getD_eq_getElem?_getD, List.getElem?_eq_getElem hl]
    exact List.mem_append_left _ (List.getElem_mem hl)
  have h61 : (61 : Nat) ∈ ixL := List.mem_append_right _ (List.mem_singleton.mpr rfl)
  rcases List.mem_append.mp hc with hc | hc
  · exact List.mem_append_left _ (hbs c hc)
  · cases hta with
    | none => nomatch hc
    | duo a b d ha hb hd =>
      simp only [List.mem_cons, List.not_mem_nil, or_false] at hc
      rcases hc with rfl | rfl | rfl | rfl
      · exact hs _ ha
      · exact hs _ hb
      · exact hs _ (by omega)
      · exact h61
    | lone a b ha hb =>
      simp only [List.mem_cons, List.not_mem_nil, or_false] at hc
      rcases hc with rfl | rfl | rfl | rfl
      · exact hs _ ha
      · exact hs _ (by omega)
      · exact h61
      · exact h61
theorem page_four {text : Str} {cuts : List Int} (hg : GoodPage text cuts) : text.length % 4 = 0 := by
  obtain ⟨body, tail, eT, hb4, hbs, hta⟩ := hg.form
  rw [len_list, eT, List.length_append]
  cases hta <;> simp only [List.length_cons, List.length_nil] <;> omega
theorem page_count {text : Str} {cuts : List Int} (hg : GoodPage text cuts) : text.cps.toList.count 61 ≤ 2 := by
  obtain ⟨body, tail, eT, hb4, hbs, hta⟩ := hg.form
  have hb : body.count 61 = 0 := by
    refine List.count_eq_zero.mpr fun hm => ?_
    have := hbs _ hm
    rw [signsL_eq] at this
    revert this; decide
  have hs : ∀ k, k < 64 → sg k ≠ 61 := fun k hk e => by
    have hl : k < signsL.length := by rw [signsL_eq]; simp only [List.length_cons, List.length_nil]; omega
    unfold sg at e
    rw [List.getD_eq_getElem?_getD, List.getElem?_eq_getElem hl] at e
    have hm : (61 : Nat) ∈ signsL := by
      have h9 : signsL[k] = 61 := e
      rw [← h9]; exact List.getElem_mem hl
    rw [signsL_eq] at hm
    revert hm; decide
  rw [eT, List.count_append, hb]
  cases hta with
  | none => decide
  | duo a b c ha hb hc => simp [List.count_cons, hs a ha, hs b hb, hs (c * 4) (by omega)]
  | lone a b ha hb => simp [List.count_cons, hs a ha, hs (b * 16) (by omega)]
theorem range_fours (n : Nat) (h : n % 4 = 0) : Builtin.Range.rangeSize 0 (n : Int) 4 = ((n / 4 : Nat) : Int) := by
  unfold Builtin.Range.rangeSize
  rw [if_pos (by decide)]
  split <;> omega
theorem range_small {a b c : Int} (h1 : -1000 ≤ a ∧ a ≤ 1000) (h2 : -1000 ≤ b) (h3 : b ≤ 1000) (h4 : 1 ≤ c ∧ c ≤ 1000) : Builtin.Range.small a b c = true := by
  have hs : 0 ≤ Builtin.Range.rangeSize a b c ∧ Builtin.Range.rangeSize a b c ≤ 3000 := by
    unfold Builtin.Range.rangeSize
    rw [if_pos (by omega)]
    split
    · have h5 : 0 ≤ (b - a - 1) / c := Int.ediv_nonneg (by omega) (by omega)
      have h6 : (b - a - 1) / c ≤ b - a - 1 := Int.ediv_le_self _ (by omega)
      omega
    · omega
  have hf : ∀ x : Int, -3000 ≤ x → x ≤ 3000 → Builtin.Range.rangeFitsLong x = true := by
    intro x hx hy
    unfold Builtin.Range.rangeFitsLong
    simp only [Bool.and_eq_true, decide_eq_true_eq]
    omega
  unfold Builtin.Range.small
  rw [if_pos (by omega), hf a (by omega) (by omega), hf b (by omega) (by omega), hf c (by omega) (by omega), hf _ (by omega) hs.2, hf (b + (c - 1)) (by omega) (by omega)]
  simp
theorem chunk_list {text : Str} {i : Nat} (hi : i < text.length / 4) : (Txt.slice text (some (0 + (i : Int) * 4)) (some (0 + (i : Int) * 4 + 4))).cps.toList = (text.cps.toList.drop (4 * i)).take 4 := by
  rw [slice_list]
  have e1 : loI text.length (some (0 + (i : Int) * 4)) = 4 * i := by show clipI _ _ = _; unfold clipI; rw [if_neg (by omega)]; omega
  have e2 : hiI text.length (some (0 + (i : Int) * 4 + 4)) = 4 * i + 4 := by show clipI _ _ = _; unfold clipI; rw [if_neg (by omega)]; omega
  rw [e1, e2]
  congr 1
  omega
theorem ixL_all : ixL.all (fun c => decide (c < 128)) = true := by decide +kernel
theorem ixL_lt : ∀ c ∈ ixL, c < 128 := fun c hc => of_decide_eq_true (List.all_eq_true.mp ixL_all c hc)
theorem signs65 : (Str.ofString "ABCDEFGHIJKLMNOPQRSTUVWXYZabcdefghijklmnopqrstuvwxyz0123456789*!=").cps.toList = ixL := by decide +kernel
theorem mod64 (n m : Nat) : (64 * (n : Int) + ((m : Nat) : Int).fmod 64) = ((64 * n + m % 64 : Nat) : Int) := by
  have e : (m : Int).fmod 64 = ((m % 64 : Nat) : Int) := by rw [Int.fmod_eq_emod_of_nonneg _ (by decide)]; rfl
  rw [e]; omega
variable {w : World} {A : Around} {s : Shared} {R : Result → Shared → Prop} {p : Program} {loose : List Str} {mean : ExcName → Option Value} {mg mb : Str → Option Value}
set_option maxHeartbeats 8000000 in
theorem octets_call {text : Str} {tt : Tok} {cuts : List Int}
  (X : (hk.heap_1 w.params).In s.heap) (T : Top p loose mean mg mb s.heap) (hA : A.depth < 450) (hU : A.units + 100 < cLine) (hh : A.handled = none) (hg : GoodPage text cuts)
  (hR : ∀ h' tk t, Stays s.heap h' → R (.ok (.ret (.bytes ((dataOf text.cps.toList).map UInt8.ofNat).toArray t))) { s with heap := h', toks := tk }) :
  codeAny (model lw.row.prog w) A (.call (.ref 93) ⟨[.str text tt], []⟩) R s := by
  revert X
  k_fill
  intro X
  w_strict (
   w_top off
   refine' callOwn (binds := [(Str.ofString "text", .str text tt)]) ?k1 ?k2 ?k3 ?k4 ?k5 ?k6 ?k7 ?_ ?c1 ?c2 ?c3 ?c4
   (case k1 => exact X)
   (case k2 => exact T.nolimit)
   (case k3 => k_is)
   (case k4 => k_is)
   (case k5 => show A.depth < 1000; omega)
   (case k6 => exact BindsTo.of_eq rfl)
   (case k7 => exact locs rfl)
   (case c1 => exact rfl)
   (case c2 => exact rfl)
   (case c3 => exact rfl)
   (case c4 => decide)
   intro h₁ F
   have N : News s.heap s.heap.objs.size h₁ [] := News.nil
   have hlen : text.length ≤ 200 := hg.len
   (try dsimp only); (try k_fold)
   repeat' (first | (k_unfold; (try dsimp only)) | ((with_reducible show wpAny _ _ (execs (_ :: _) _) _ _ _); refine execs_hide ?_; intro Qk9 kH9; (try dsimp only)) | ((with_reducible rename Hid _ _ _ => kH9); first | (refine hid_next kH9 ?_; clear kH9; (try clear Qk9)) | (refine hid_other kH9 (by nofun) ?_; clear kH9; (try clear Qk9)); (try dsimp only)) | ((with_reducible show wpAny _ _ (call (Value.builtin "str.index") _) _ _ _); k_dflt (refine index_ok (by assumption) ?_; (try dsimp only))) | ((with_reducible show wpAny _ _ (call (Value.builtin "len") [Value.ref _]) _ _ _); k_dflt (refine len_list_ok (by k_asm) (by k_mem) (by omega) ?_; (try dsimp only))) | ((with_reducible show wpAny _ _ (binaryOp Operator.Add (Value.str _ _) (Value.str _ _)) _ _ _); k_dflt (refine SB.add ?_ (add_fits (by walk_at "m_len") (by walk_at "m_len") (by decide +kernel)); intro _ _; (try dsimp only))) | ((with_reducible show wpAny _ _ (call (Value.builtin "len") [Value.str _ _]) _ _ _); k_dflt (refine len_str_ok (Nat.le_trans (by walk_at "m_len") (by decide +kernel)) ?_; (try dsimp only))) | ((with_reducible show wpAny _ _ (call (Value.builtin "list.append") [Value.ref _, _]) _ _ _); k_dflt (refine append_K (by k_asm) (by k_asm) (by k_upd) ?_ (by refine size_ok ?_; (try simp only [List.size_toArray]); omega); k_whole); intro _ _ _; (try k_sweep)) | ((with_reducible show wpAny _ _ (storeName (compEnvC _ _ _ _) _ _) _ _ _); k_dflt (refine cc_store (by assumption) (by assumption) (by exact rfl) (by exact rfl) ?_); intro _ _ _; (try k_sweep)) | ((with_reducible show wpAny _ _ (eval (Expr.Name _ _) (compEnvC _ _ _ _)) _ _ _); k_dflt (refine cc_load (by assumption) (by exact rfl) ?_ (by exact rfl) (by exact rfl) (by exact rfl))) | ((with_reducible show wpAny _ _ _ _ _ _); (fail_if_success (with_reducible first | show wpAny _ _ (exec (Stmt.For _ _ _ _ _) _) _ _ _ | show wpAny _ _ (exec (Stmt.While _ _ _ _) _) _ _ _ | show wpAny _ _ (pyIter _) _ _ _ | show wpAny _ _ (call (Value.builtin "list.pop") _ _) _ _ _ | show wpAny _ _ (call (Value.builtin "str.join") _ _) _ _ _ | show wpAny _ _ (call (Value.builtin "max") _ _) _ _ _ | show wpAny _ _ (setItem _ _ _) _ _ _ | show wpAny _ _ (call (Value.builtin "str.replace") _ _) _ _ _ | show wpAny _ _ (call (Value.builtin "str.split") _ _) _ _ _ | show wpAny _ _ (call (Value.ref _) _ _) _ _ _ | show wpAny _ _ (eval (Expr.ListComp _ _ _ _) _) _ _ _ | show wpAny _ _ (exec (Stmt.Assign _ (Expr.ListComp _ _ _ _) _) _) _ _ _)); first | walk1 | (dsimp only; walk1)) | ((with_reducible show Frag.In _ _ ∧ _); (refine ⟨by k_in, ?_⟩); (try dsimp only [List.nil_append, List.cons_append])) | ((with_reducible show (if _ then _ else _)); walk1))
   refine wpAny_call (signs_call (X.keeps F.keep) (T.nolimit.keeps F.keep) ?_ ?_)
   · show A.depth + 1 < 1000; omega
   intro h₂ tk₂ t₂ st₂
   replace F := fr_stays F st₂
   replace N := news_stays N st₂
   have hsl : signsS.length ≤ 64 := by decide +kernel
   dsimp only
   repeat' (first | (k_unfold; (try dsimp only)) | ((with_reducible show wpAny _ _ (execs (_ :: _) _) _ _ _); refine execs_hide ?_; intro Qk9 kH9; (try dsimp only)) | ((with_reducible rename Hid _ _ _ => kH9); first | (refine hid_next kH9 ?_; clear kH9; (try clear Qk9)) | (refine hid_other kH9 (by nofun) ?_; clear kH9; (try clear Qk9)); (try dsimp only)) | ((with_reducible show wpAny _ _ (call (Value.builtin "str.index") _) _ _ _); k_dflt (refine index_ok (by assumption) ?_; (try dsimp only))) | ((with_reducible show wpAny _ _ (call (Value.builtin "len") [Value.ref _]) _ _ _); k_dflt (refine len_list_ok (by k_asm) (by k_mem) (by omega) ?_; (try dsimp only))) | ((with_reducible show wpAny _ _ (binaryOp Operator.Add (Value.str _ _) (Value.str _ _)) _ _ _); k_dflt (refine SB.add ?_ (add_fits (by walk_at "m_len") (by walk_at "m_len") (by decide +kernel)); intro _ _; (try dsimp only))) | ((with_reducible show wpAny _ _ (call (Value.builtin "len") [Value.str _ _]) _ _ _); k_dflt (refine len_str_ok (Nat.le_trans (by walk_at "m_len") (by decide +kernel)) ?_; (try dsimp only))) | ((with_reducible show wpAny _ _ (call (Value.builtin "list.append") [Value.ref _, _]) _ _ _); k_dflt (refine append_K (by k_asm) (by k_asm) (by k_upd) ?_ (by refine size_ok ?_; (try simp only [List.size_toArray]); omega); k_whole); intro _ _ _; (try k_sweep)) | ((with_reducible show wpAny _ _ (storeName (compEnvC _ _ _ _) _ _) _ _ _); k_dflt (refine cc_store (by assumption) (by assumption) (by exact rfl) (by exact rfl) ?_); intro _ _ _; (try k_sweep)) | ((with_reducible show wpAny _ _ (eval (Expr.Name _ _) (compEnvC _ _ _ _)) _ _ _); k_dflt (refine cc_load (by assumption) (by exact rfl) ?_ (by exact rfl) (by exact rfl) (by exact rfl))) | ((with_reducible show wpAny _ _ _ _ _ _); (fail_if_success (with_reducible first | show wpAny _ _ (exec (Stmt.For _ _ _ _ _) _) _ _ _ | show wpAny _ _ (exec (Stmt.While _ _ _ _) _) _ _ _ | show wpAny _ _ (pyIter _) _ _ _ | show wpAny _ _ (call (Value.builtin "list.pop") _ _) _ _ _ | show wpAny _ _ (call (Value.builtin "str.join") _ _) _ _ _ | show wpAny _ _ (call (Value.builtin "max") _ _) _ _ _ | show wpAny _ _ (setItem _ _ _) _ _ _ | show wpAny _ _ (call (Value.builtin "str.replace") _ _) _ _ _ | show wpAny _ _ (call (Value.builtin "str.split") _ _) _ _ _ | show wpAny _ _ (call (Value.ref _) _ _) _ _ _ | show wpAny _ _ (eval (Expr.ListComp _ _ _ _) _) _ _ _ | show wpAny _ _ (exec (Stmt.Assign _ (Expr.ListComp _ _ _ _) _) _) _ _ _)); first | walk1 | (dsimp only; walk1)) | ((with_reducible show Frag.In _ _ ∧ _); (refine ⟨by k_in, ?_⟩); (try dsimp only [List.nil_append, List.cons_append])) | ((with_reducible show (if _ then _ else _)); walk1))
   refine for_inv (h₀ := s.heap) ?_
   repeat' (first | (k_unfold; (try dsimp only)) | ((with_reducible show wpAny _ _ (execs (_ :: _) _) _ _ _); refine execs_hide ?_; intro Qk9 kH9; (try dsimp only)) | ((with_reducible rename Hid _ _ _ => kH9); first | (refine hid_next kH9 ?_; clear kH9; (try clear Qk9)) | (refine hid_other kH9 (by nofun) ?_; clear kH9; (try clear Qk9)); (try dsimp only)) | ((with_reducible show wpAny _ _ (call (Value.builtin "str.index") _) _ _ _); k_dflt (refine index_ok (by assumption) ?_; (try dsimp only))) | ((with_reducible show wpAny _ _ (call (Value.builtin "len") [Value.ref _]) _ _ _); k_dflt (refine len_list_ok (by k_asm) (by k_mem) (by omega) ?_; (try dsimp only))) | ((with_reducible show wpAny _ _ (binaryOp Operator.Add (Value.str _ _) (Value.str _ _)) _ _ _); k_dflt (refine SB.add ?_ (add_fits (by walk_at "m_len") (by walk_at "m_len") (by decide +kernel)); intro _ _; (try dsimp only))) | ((with_reducible show wpAny _ _ (call (Value.builtin "len") [Value.str _ _]) _ _ _); k_dflt (refine len_str_ok (Nat.le_trans (by walk_at "m_len") (by decide +kernel)) ?_; (try dsimp only))) | ((with_reducible show wpAny _ _ (call (Value.builtin "list.append") [Value.ref _, _]) _ _ _); k_dflt (refine append_K (by k_asm) (by k_asm) (by k_upd) ?_ (by refine size_ok ?_; (try simp only [List.size_toArray]); omega); k_whole); intro _ _ _; (try k_sweep)) | ((with_reducible show wpAny _ _ (storeName (compEnvC _ _ _ _) _ _) _ _ _); k_dflt (refine cc_store (by assumption) (by assumption) (by exact rfl) (by exact rfl) ?_); intro _ _ _; (try k_sweep)) | ((with_reducible show wpAny _ _ (eval (Expr.Name _ _) (compEnvC _ _ _ _)) _ _ _); k_dflt (refine cc_load (by assumption) (by exact rfl) ?_ (by exact rfl) (by exact rfl) (by exact rfl))) | ((with_reducible show wpAny _ _ _ _ _ _); (fail_if_success (with_reducible first | show wpAny _ _ (exec (Stmt.For _ _ _ _ _) _) _ _ _ | show wpAny _ _ (exec (Stmt.While _ _ _ _) _) _ _ _ | show wpAny _ _ (pyIter _) _ _ _ | show wpAny _ _ (call (Value.builtin "list.pop") _ _) _ _ _ | show wpAny _ _ (call (Value.builtin "str.join") _ _) _ _ _ | show wpAny _ _ (call (Value.builtin "max") _ _) _ _ _ | show wpAny _ _ (setItem _ _ _) _ _ _ | show wpAny _ _ (call (Value.builtin "str.replace") _ _) _ _ _ | show wpAny _ _ (call (Value.builtin "str.split") _ _) _ _ _ | show wpAny _ _ (call (Value.ref _) _ _) _ _ _ | show wpAny _ _ (eval (Expr.ListComp _ _ _ _) _) _ _ _ | show wpAny _ _ (exec (Stmt.Assign _ (Expr.ListComp _ _ _ _) _) _) _ _ _)); first | walk1 | (dsimp only; walk1)) | ((with_reducible show Frag.In _ _ ∧ _); (refine ⟨by k_in, ?_⟩); (try dsimp only [List.nil_append, List.cons_append])) | ((with_reducible show (if _ then _ else _)); walk1))
   rename_i ao _ _ _ _ _ hr _ t1 u1 v1 hrg F N _
   obtain ⟨body, tail, eT, hb4, hbs, hta⟩ := hg.form
   have hmem : ∀ c ∈ text.cps.toList, c ∈ ixL := page_mem hg
   have h4 : text.length % 4 = 0 := page_four hg
   refine iter_range (n := text.length / 4) (fun i g m₁ news₁ => ∃ ts ovs k, (∀ q ∈ [(Str.ofString "signs", Value.str (Str.ofString "ABCDEFGHIJKLMNOPQRSTUVWXYZabcdefghijklmnopqrstuvwxyz0123456789*!=") ts), (Str.ofString "text", .str text tt), (Str.ofString "octets", .ref ao)], m₁ q.1 = some q.2) ∧
      news₁ = [(ao, W.listOf ovs.toArray k)] ∧ IntsAre ovs (asInts (octN text.cps.toList i)) ∧ g = s.gens) hh hrg ?_ ?_ F N ?_ ?_ ?_
   · refine range_small (by decide) ?_ ?_ (by decide) <;> omega
   · exact range_fours _ h4
   · exact ⟨_, _, _, by kst_all, rfl, .nil, rfl⟩
   · rintro I i v m₁ news₁ g h tk oI hin ⟨ti, rfl⟩ ⟨ts, ovs, k, hm, rfl, hoi, rfl⟩ hoff htk F₁ N₁
     replace F₁ := fr_kst _ F₁ hm
     simp only [kstB] at F₁
     change Fr s.heap s.heap.objs.size h _ at F₁
     change News s.heap s.heap.objs.size h _ at N₁
     have hoff1 := neN (hoff _ (.head _))
     dsimp only at hoff1
     clear hm
     (try k_fold)
     repeat' (first | (k_unfold; (try dsimp only)) | ((with_reducible show wpAny _ _ (execs (_ :: _) _) _ _ _); refine execs_hide ?_; intro Qk9 kH9; (try dsimp only)) | ((with_reducible rename Hid _ _ _ => kH9); first | (refine hid_next kH9 ?_; clear kH9; (try clear Qk9)) | (refine hid_other kH9 (by nofun) ?_; clear kH9; (try clear Qk9)); (try dsimp only)) | ((with_reducible show wpAny _ _ (call (Value.builtin "str.index") _) _ _ _); k_dflt (refine index_ok (by assumption) ?_; (try dsimp only))) | ((with_reducible show wpAny _ _ (call (Value.builtin "len") [Value.ref _]) _ _ _); k_dflt (refine len_list_ok (by k_asm) (by k_mem) (by omega) ?_; (try dsimp only))) | ((with_reducible show wpAny _ _ (binaryOp Operator.Add (Value.str _ _) (Value.str _ _)) _ _ _); k_dflt (refine SB.add ?_ (add_fits (by walk_at "m_len") (by walk_at "m_len") (by decide +kernel)); intro _ _; (try dsimp only))) | ((with_reducible show wpAny _ _ (call (Value.builtin "len") [Value.str _ _]) _ _ _); k_dflt (refine len_str_ok (Nat.le_trans (by walk_at "m_len") (by decide +kernel)) ?_; (try dsimp only))) | ((with_reducible show wpAny _ _ (call (Value.builtin "list.append") [Value.ref _, _]) _ _ _); k_dflt (refine append_K (by k_asm) (by k_asm) (by k_upd) ?_ (by refine size_ok ?_; (try simp only [List.size_toArray]); omega); k_whole); intro _ _ _; (try k_sweep)) | ((with_reducible show wpAny _ _ (storeName (compEnvC _ _ _ _) _ _) _ _ _); k_dflt (refine cc_store (by assumption) (by assumption) (by exact rfl) (by exact rfl) ?_); intro _ _ _; (try k_sweep)) | ((with_reducible show wpAny _ _ (eval (Expr.Name _ _) (compEnvC _ _ _ _)) _ _ _); k_dflt (refine cc_load (by assumption) (by exact rfl) ?_ (by exact rfl) (by exact rfl) (by exact rfl))) | ((with_reducible show wpAny _ _ _ _ _ _); (fail_if_success (with_reducible first | show wpAny _ _ (exec (Stmt.For _ _ _ _ _) _) _ _ _ | show wpAny _ _ (exec (Stmt.While _ _ _ _) _) _ _ _ | show wpAny _ _ (pyIter _) _ _ _ | show wpAny _ _ (call (Value.builtin "list.pop") _ _) _ _ _ | show wpAny _ _ (call (Value.builtin "str.join") _ _) _ _ _ | show wpAny _ _ (call (Value.builtin "max") _ _) _ _ _ | show wpAny _ _ (setItem _ _ _) _ _ _ | show wpAny _ _ (call (Value.builtin "str.replace") _ _) _ _ _ | show wpAny _ _ (call (Value.builtin "str.split") _ _) _ _ _ | show wpAny _ _ (call (Value.ref _) _ _) _ _ _ | show wpAny _ _ (eval (Expr.ListComp _ _ _ _) _) _ _ _ | show wpAny _ _ (exec (Stmt.Assign _ (Expr.ListComp _ _ _ _) _) _) _ _ _)); first | walk1 | (dsimp only; walk1)) | ((with_reducible show Frag.In _ _ ∧ _); (refine ⟨by k_in, ?_⟩); (try dsimp only [List.nil_append, List.cons_append])) | ((with_reducible show (if _ then _ else _)); walk1))
     have hcl := chunk_list hin
     refine for_inv (h₀ := s.heap) ?_
     repeat' (first | (k_unfold; (try dsimp only)) | ((with_reducible show wpAny _ _ (execs (_ :: _) _) _ _ _); refine execs_hide ?_; intro Qk9 kH9; (try dsimp only)) | ((with_reducible rename Hid _ _ _ => kH9); first | (refine hid_next kH9 ?_; clear kH9; (try clear Qk9)) | (refine hid_other kH9 (by nofun) ?_; clear kH9; (try clear Qk9)); (try dsimp only)) | ((with_reducible show wpAny _ _ (call (Value.builtin "str.index") _) _ _ _); k_dflt (refine index_ok (by assumption) ?_; (try dsimp only))) | ((with_reducible show wpAny _ _ (call (Value.builtin "len") [Value.ref _]) _ _ _); k_dflt (refine len_list_ok (by k_asm) (by k_mem) (by omega) ?_; (try dsimp only))) | ((with_reducible show wpAny _ _ (binaryOp Operator.Add (Value.str _ _) (Value.str _ _)) _ _ _); k_dflt (refine SB.add ?_ (add_fits (by walk_at "m_len") (by walk_at "m_len") (by decide +kernel)); intro _ _; (try dsimp only))) | ((with_reducible show wpAny _ _ (call (Value.builtin "len") [Value.str _ _]) _ _ _); k_dflt (refine len_str_ok (Nat.le_trans (by walk_at "m_len") (by decide +kernel)) ?_; (try dsimp only))) | ((with_reducible show wpAny _ _ (call (Value.builtin "list.append") [Value.ref _, _]) _ _ _); k_dflt (refine append_K (by k_asm) (by k_asm) (by k_upd) ?_ (by refine size_ok ?_; (try simp only [List.size_toArray]); omega); k_whole); intro _ _ _; (try k_sweep)) | ((with_reducible show wpAny _ _ (storeName (compEnvC _ _ _ _) _ _) _ _ _); k_dflt (refine cc_store (by assumption) (by assumption) (by exact rfl) (by exact rfl) ?_); intro _ _ _; (try k_sweep)) | ((with_reducible show wpAny _ _ (eval (Expr.Name _ _) (compEnvC _ _ _ _)) _ _ _); k_dflt (refine cc_load (by assumption) (by exact rfl) ?_ (by exact rfl) (by exact rfl) (by exact rfl))) | ((with_reducible show wpAny _ _ _ _ _ _); (fail_if_success (with_reducible first | show wpAny _ _ (exec (Stmt.For _ _ _ _ _) _) _ _ _ | show wpAny _ _ (exec (Stmt.While _ _ _ _) _) _ _ _ | show wpAny _ _ (pyIter _) _ _ _ | show wpAny _ _ (call (Value.builtin "list.pop") _ _) _ _ _ | show wpAny _ _ (call (Value.builtin "str.join") _ _) _ _ _ | show wpAny _ _ (call (Value.builtin "max") _ _) _ _ _ | show wpAny _ _ (setItem _ _ _) _ _ _ | show wpAny _ _ (call (Value.builtin "str.replace") _ _) _ _ _ | show wpAny _ _ (call (Value.builtin "str.split") _ _) _ _ _ | show wpAny _ _ (call (Value.ref _) _ _) _ _ _ | show wpAny _ _ (eval (Expr.ListComp _ _ _ _) _) _ _ _ | show wpAny _ _ (exec (Stmt.Assign _ (Expr.ListComp _ _ _ _) _) _) _ _ _)); first | walk1 | (dsimp only; walk1)) | ((with_reducible show Frag.In _ _ ∧ _); (refine ⟨by k_in, ?_⟩); (try dsimp only [List.nil_append, List.cons_append])) | ((with_reducible show (if _ then _ else _)); walk1))
     rename_i F N _
     generalize Txt.slice text (some (0 + (i : Int) * 4)) (some (0 + (i : Int) * 4 + 4)) = ch at hcl
     have hchm : ∀ c ∈ ch.cps.toList, c ∈ ixL := fun c hc => hmem c (by rw [hcl] at hc; exact List.mem_of_mem_drop (List.mem_of_mem_take hc))
     refine iter_str (fun j g m₁ news₁ => ∃ ts tn, (∀ q ∈ [(Str.ofString "signs", Value.str (Str.ofString "ABCDEFGHIJKLMNOPQRSTUVWXYZabcdefghijklmnopqrstuvwxyz0123456789*!=") ts), (Str.ofString "text", .str text tt), (Str.ofString "octets", .ref ao), (Str.ofString "number", .int (num (ch.cps.toList.take j) : Nat) tn)], m₁ q.1 = some q.2) ∧
        news₁ = [(I, oI), (ao, W.listOf ovs.toArray k)] ∧ g = s.gens) hh ?_ F N ?_ ?_ ?_
     · rw [← Array.all_toList]
       exact List.all_eq_true.mpr fun c hc => decide_eq_true (ixL_lt c (hchm c hc))
     · exact ⟨_, _, by kst_all, rfl, rfl⟩
     · rintro I' j v m₂ news₂ g h2 tk2 oI' hjn ⟨c, u, hc, rfl⟩ ⟨ts', tn, hm2, rfl, rfl⟩ hoff2 htk2 F₂ N₂
       replace F₂ := fr_kst _ F₂ hm2
       simp only [kstB] at F₂
       change Fr s.heap s.heap.objs.size h2 _ at F₂
       change News s.heap s.heap.objs.size h2 _ at N₂
       have hcc : c ∈ ch.cps.toList := List.mem_of_getElem? (i := j) (by simpa using hc)
       have hcm : c ∈ (Str.ofString "ABCDEFGHIJKLMNOPQRSTUVWXYZabcdefghijklmnopqrstuvwxyz0123456789*!=").cps.toList := by rw [signs65]; exact hchm c hcc
       have hnum : 64 * ((num (ch.cps.toList.take j) : Nat) : Int) + (((Str.ofString "ABCDEFGHIJKLMNOPQRSTUVWXYZabcdefghijklmnopqrstuvwxyz0123456789*!=").cps.toList.idxOf c : Nat) : Int).fmod 64 = ((num (ch.cps.toList.take (j + 1)) : Nat) : Int) := by
         have e : ch.cps.toList.take (j + 1) = ch.cps.toList.take j ++ [c] := by
           have hc' : ch.cps.toList[j]? = some c := by simpa using hc
           simp [List.take_add_one, hc']
         rw [e, num_snoc, signs65, mod64]; rfl
       have hnb : num (ch.cps.toList.take j) < 16777216 := by
         have h1 := num_lt (ch.cps.toList.take j)
         have h2 : (ch.cps.toList.take j).length ≤ 4 := by rw [hcl, List.length_take, List.length_take]; omega
         have h3 : 64 ^ (ch.cps.toList.take j).length ≤ 64 ^ 4 := Nat.pow_le_pow_right (by decide) h2
         omega
       clear hm2
       (try k_fold)
       repeat' (first | (k_unfold; (try dsimp only)) | ((with_reducible show wpAny _ _ (execs (_ :: _) _) _ _ _); refine execs_hide ?_; intro Qk9 kH9; (try dsimp only)) | ((with_reducible rename Hid _ _ _ => kH9); first | (refine hid_next kH9 ?_; clear kH9; (try clear Qk9)) | (refine hid_other kH9 (by nofun) ?_; clear kH9; (try clear Qk9)); (try dsimp only)) | ((with_reducible show wpAny _ _ (call (Value.builtin "str.index") _) _ _ _); k_dflt (refine index_ok (by assumption) ?_; (try dsimp only))) | ((with_reducible show wpAny _ _ (call (Value.builtin "len") [Value.ref _]) _ _ _); k_dflt (refine len_list_ok (by k_asm) (by k_mem) (by omega) ?_; (try dsimp only))) | ((with_reducible show wpAny _ _ (binaryOp Operator.Add (Value.str _ _) (Value.str _ _)) _ _ _); k_dflt (refine SB.add ?_ (add_fits (by walk_at "m_len") (by walk_at "m_len") (by decide +kernel)); intro _ _; (try dsimp only))) | ((with_reducible show wpAny _ _ (call (Value.builtin "len") [Value.str _ _]) _ _ _); k_dflt (refine len_str_ok (Nat.le_trans (by walk_at "m_len") (by decide +kernel)) ?_; (try dsimp only))) | ((with_reducible show wpAny _ _ (call (Value.builtin "list.append") [Value.ref _, _]) _ _ _); k_dflt (refine append_K (by k_asm) (by k_asm) (by k_upd) ?_ (by refine size_ok ?_; (try simp only [List.size_toArray]); omega); k_whole); intro _ _ _; (try k_sweep)) | ((with_reducible show wpAny _ _ (storeName (compEnvC _ _ _ _) _ _) _ _ _); k_dflt (refine cc_store (by assumption) (by assumption) (by exact rfl) (by exact rfl) ?_); intro _ _ _; (try k_sweep)) | ((with_reducible show wpAny _ _ (eval (Expr.Name _ _) (compEnvC _ _ _ _)) _ _ _); k_dflt (refine cc_load (by assumption) (by exact rfl) ?_ (by exact rfl) (by exact rfl) (by exact rfl))) | ((with_reducible show wpAny _ _ _ _ _ _); (fail_if_success (with_reducible first | show wpAny _ _ (exec (Stmt.For _ _ _ _ _) _) _ _ _ | show wpAny _ _ (exec (Stmt.While _ _ _ _) _) _ _ _ | show wpAny _ _ (pyIter _) _ _ _ | show wpAny _ _ (call (Value.builtin "list.pop") _ _) _ _ _ | show wpAny _ _ (call (Value.builtin "str.join") _ _) _ _ _ | show wpAny _ _ (call (Value.builtin "max") _ _) _ _ _ | show wpAny _ _ (setItem _ _ _) _ _ _ | show wpAny _ _ (call (Value.builtin "str.replace") _ _) _ _ _ | show wpAny _ _ (call (Value.builtin "str.split") _ _) _ _ _ | show wpAny _ _ (call (Value.ref _) _ _) _ _ _ | show wpAny _ _ (eval (Expr.ListComp _ _ _ _) _) _ _ _ | show wpAny _ _ (exec (Stmt.Assign _ (Expr.ListComp _ _ _ _) _) _) _ _ _)); first | walk1 | (dsimp only; walk1)) | ((with_reducible show Frag.In _ _ ∧ _); (refine ⟨by k_in, ?_⟩); (try dsimp only [List.nil_append, List.cons_append])) | ((with_reducible show (if _ then _ else _)); walk1))
       rename_i F' N'
       rw [hnum] at F'
       exact ⟨_, _, _, _, _, rfl, F', N', hoff2, _, _, by kst_all, rfl, rfl⟩
     · rintro h3 tk3 g m₃ news₃ htk3 F₃ N₃ ⟨ts3, tn3, hm3, rfl, rfl⟩
       have hfull : ch.cps.toList.take ch.cps.size = ch.cps.toList := by rw [← Array.length_toList, List.take_length]
       rw [hfull] at hm3
       replace F₃ := fr_kst _ F₃ hm3
       simp only [kstB] at F₃
       change Fr s.heap s.heap.objs.size h3 _ at F₃
       change News s.heap s.heap.objs.size h3 _ at N₃
       have hol : ovs.length ≤ 150 := by rw [hoi.length]; unfold asInts; rw [List.length_map, octN_len]; omega
       clear hm3 F N
       dsimp only
       repeat' (first | (k_unfold; (try dsimp only)) | ((with_reducible show wpAny _ _ (execs (_ :: _) _) _ _ _); refine execs_hide ?_; intro Qk9 kH9; (try dsimp only)) | ((with_reducible rename Hid _ _ _ => kH9); first | (refine hid_next kH9 ?_; clear kH9; (try clear Qk9)) | (refine hid_other kH9 (by nofun) ?_; clear kH9; (try clear Qk9)); (try dsimp only)) | ((with_reducible show wpAny _ _ (call (Value.builtin "str.index") _) _ _ _); k_dflt (refine index_ok (by assumption) ?_; (try dsimp only))) | ((with_reducible show wpAny _ _ (call (Value.builtin "len") [Value.ref _]) _ _ _); k_dflt (refine len_list_ok (by k_asm) (by k_mem) (by omega) ?_; (try dsimp only))) | ((with_reducible show wpAny _ _ (binaryOp Operator.Add (Value.str _ _) (Value.str _ _)) _ _ _); k_dflt (refine SB.add ?_ (add_fits (by walk_at "m_len") (by walk_at "m_len") (by decide +kernel)); intro _ _; (try dsimp only))) | ((with_reducible show wpAny _ _ (call (Value.builtin "len") [Value.str _ _]) _ _ _); k_dflt (refine len_str_ok (Nat.le_trans (by walk_at "m_len") (by decide +kernel)) ?_; (try dsimp only))) | ((with_reducible show wpAny _ _ (call (Value.builtin "list.append") [Value.ref _, _]) _ _ _); k_dflt (refine append_K (by k_asm) (by k_asm) (by k_upd) ?_ (by refine size_ok ?_; (try simp only [List.size_toArray]); omega); k_whole); intro _ _ _; (try k_sweep)) | ((with_reducible show wpAny _ _ (storeName (compEnvC _ _ _ _) _ _) _ _ _); k_dflt (refine cc_store (by assumption) (by assumption) (by exact rfl) (by exact rfl) ?_); intro _ _ _; (try k_sweep)) | ((with_reducible show wpAny _ _ (eval (Expr.Name _ _) (compEnvC _ _ _ _)) _ _ _); k_dflt (refine cc_load (by assumption) (by exact rfl) ?_ (by exact rfl) (by exact rfl) (by exact rfl))) | ((with_reducible show wpAny _ _ _ _ _ _); (fail_if_success (with_reducible first | show wpAny _ _ (exec (Stmt.For _ _ _ _ _) _) _ _ _ | show wpAny _ _ (exec (Stmt.While _ _ _ _) _) _ _ _ | show wpAny _ _ (pyIter _) _ _ _ | show wpAny _ _ (call (Value.builtin "list.pop") _ _) _ _ _ | show wpAny _ _ (call (Value.builtin "str.join") _ _) _ _ _ | show wpAny _ _ (call (Value.builtin "max") _ _) _ _ _ | show wpAny _ _ (setItem _ _ _) _ _ _ | show wpAny _ _ (call (Value.builtin "str.replace") _ _) _ _ _ | show wpAny _ _ (call (Value.builtin "str.split") _ _) _ _ _ | show wpAny _ _ (call (Value.ref _) _ _) _ _ _ | show wpAny _ _ (eval (Expr.ListComp _ _ _ _) _) _ _ _ | show wpAny _ _ (exec (Stmt.Assign _ (Expr.ListComp _ _ _ _) _) _) _ _ _)); first | walk1 | (dsimp only; walk1)) | ((with_reducible show Frag.In _ _ ∧ _); (refine ⟨by k_in, ?_⟩); (try dsimp only [List.nil_append, List.cons_append])) | ((with_reducible show (if _ then _ else _)); walk1))
       rename_i F' N' hlt
       refine' extend_ok (ws := [_, _, _]) F' N' (.head _) (Nat.succ_ne_zero _) ?U ?z ?_
       case U => k_upd
       case z => simp only [List.length_cons, List.length_nil]; omega
       intro h9 F9 N9
       repeat' (first | (k_unfold; (try dsimp only)) | ((with_reducible show wpAny _ _ (execs (_ :: _) _) _ _ _); refine execs_hide ?_; intro Qk9 kH9; (try dsimp only)) | ((with_reducible rename Hid _ _ _ => kH9); first | (refine hid_next kH9 ?_; clear kH9; (try clear Qk9)) | (refine hid_other kH9 (by nofun) ?_; clear kH9; (try clear Qk9)); (try dsimp only)) | ((with_reducible show wpAny _ _ (call (Value.builtin "str.index") _) _ _ _); k_dflt (refine index_ok (by assumption) ?_; (try dsimp only))) | ((with_reducible show wpAny _ _ (call (Value.builtin "len") [Value.ref _]) _ _ _); k_dflt (refine len_list_ok (by k_asm) (by k_mem) (by omega) ?_; (try dsimp only))) | ((with_reducible show wpAny _ _ (binaryOp Operator.Add (Value.str _ _) (Value.str _ _)) _ _ _); k_dflt (refine SB.add ?_ (add_fits (by walk_at "m_len") (by walk_at "m_len") (by decide +kernel)); intro _ _; (try dsimp only))) | ((with_reducible show wpAny _ _ (call (Value.builtin "len") [Value.str _ _]) _ _ _); k_dflt (refine len_str_ok (Nat.le_trans (by walk_at "m_len") (by decide +kernel)) ?_; (try dsimp only))) | ((with_reducible show wpAny _ _ (call (Value.builtin "list.append") [Value.ref _, _]) _ _ _); k_dflt (refine append_K (by k_asm) (by k_asm) (by k_upd) ?_ (by refine size_ok ?_; (try simp only [List.size_toArray]); omega); k_whole); intro _ _ _; (try k_sweep)) | ((with_reducible show wpAny _ _ (storeName (compEnvC _ _ _ _) _ _) _ _ _); k_dflt (refine cc_store (by assumption) (by assumption) (by exact rfl) (by exact rfl) ?_); intro _ _ _; (try k_sweep)) | ((with_reducible show wpAny _ _ (eval (Expr.Name _ _) (compEnvC _ _ _ _)) _ _ _); k_dflt (refine cc_load (by assumption) (by exact rfl) ?_ (by exact rfl) (by exact rfl) (by exact rfl))) | ((with_reducible show wpAny _ _ _ _ _ _); (fail_if_success (with_reducible first | show wpAny _ _ (exec (Stmt.For _ _ _ _ _) _) _ _ _ | show wpAny _ _ (exec (Stmt.While _ _ _ _) _) _ _ _ | show wpAny _ _ (pyIter _) _ _ _ | show wpAny _ _ (call (Value.builtin "list.pop") _ _) _ _ _ | show wpAny _ _ (call (Value.builtin "str.join") _ _) _ _ _ | show wpAny _ _ (call (Value.builtin "max") _ _) _ _ _ | show wpAny _ _ (setItem _ _ _) _ _ _ | show wpAny _ _ (call (Value.builtin "str.replace") _ _) _ _ _ | show wpAny _ _ (call (Value.builtin "str.split") _ _) _ _ _ | show wpAny _ _ (call (Value.ref _) _ _) _ _ _ | show wpAny _ _ (eval (Expr.ListComp _ _ _ _) _) _ _ _ | show wpAny _ _ (exec (Stmt.Assign _ (Expr.ListComp _ _ _ _) _) _) _ _ _)); first | walk1 | (dsimp only; walk1)) | ((with_reducible show Frag.In _ _ ∧ _); (refine ⟨by k_in, ?_⟩); (try dsimp only [List.nil_append, List.cons_append])) | ((with_reducible show (if _ then _ else _)); walk1))
       refine ⟨_, _, _, _, [(ao, W.listOf (ovs ++ [_, _, _]).toArray (k + 1))], rfl, by assumption, kst_newsOf (by assumption) (by kst_allIn), ?_, _, _, _, by kst_all, rfl, ?_, rfl⟩
       · intro q hq
         rw [List.mem_singleton.mp hq]; exact hoff1
       · rw [octN, ← hcl]
         unfold asInts
         rw [List.map_append]
         refine IntsAre.append hoi ?_
         show IntsAre _ (asInts (three (num ch.cps.toList)))
         rw [← three_cast]
         exact .cons _ _ (.cons _ _ (.cons _ _ .nil))
   · rintro h3 tk3 g m₃ news₃ htk3 F₃ N₃ ⟨ts3, ovs, k, hm3, rfl, hoi, rfl⟩
     replace F₃ := fr_kst _ F₃ hm3
     simp only [kstB] at F₃
     change Fr s.heap s.heap.objs.size h3 _ at F₃
     change News s.heap s.heap.objs.size h3 _ at N₃
     have hol : ovs.length ≤ 150 := by rw [hoi.length]; unfold asInts; rw [List.length_map, octN_len]; omega
     clear hm3 F N
     dsimp only
     (try k_fold)
     repeat' (first | (k_unfold; (try dsimp only)) | ((with_reducible show wpAny _ _ (execs (_ :: _) _) _ _ _); refine execs_hide ?_; intro Qk9 kH9; (try dsimp only)) | ((with_reducible rename Hid _ _ _ => kH9); first | (refine hid_next kH9 ?_; clear kH9; (try clear Qk9)) | (refine hid_other kH9 (by nofun) ?_; clear kH9; (try clear Qk9)); (try dsimp only)) | ((with_reducible show wpAny _ _ (call (Value.builtin "str.index") _) _ _ _); k_dflt (refine index_ok (by assumption) ?_; (try dsimp only))) | ((with_reducible show wpAny _ _ (call (Value.builtin "len") [Value.ref _]) _ _ _); k_dflt (refine len_list_ok (by k_asm) (by k_mem) (by omega) ?_; (try dsimp only))) | ((with_reducible show wpAny _ _ (binaryOp Operator.Add (Value.str _ _) (Value.str _ _)) _ _ _); k_dflt (refine SB.add ?_ (add_fits (by walk_at "m_len") (by walk_at "m_len") (by decide +kernel)); intro _ _; (try dsimp only))) | ((with_reducible show wpAny _ _ (call (Value.builtin "len") [Value.str _ _]) _ _ _); k_dflt (refine len_str_ok (Nat.le_trans (by walk_at "m_len") (by decide +kernel)) ?_; (try dsimp only))) | ((with_reducible show wpAny _ _ (call (Value.builtin "list.append") [Value.ref _, _]) _ _ _); k_dflt (refine append_K (by k_asm) (by k_asm) (by k_upd) ?_ (by refine size_ok ?_; (try simp only [List.size_toArray]); omega); k_whole); intro _ _ _; (try k_sweep)) | ((with_reducible show wpAny _ _ (storeName (compEnvC _ _ _ _) _ _) _ _ _); k_dflt (refine cc_store (by assumption) (by assumption) (by exact rfl) (by exact rfl) ?_); intro _ _ _; (try k_sweep)) | ((with_reducible show wpAny _ _ (eval (Expr.Name _ _) (compEnvC _ _ _ _)) _ _ _); k_dflt (refine cc_load (by assumption) (by exact rfl) ?_ (by exact rfl) (by exact rfl) (by exact rfl))) | ((with_reducible show wpAny _ _ _ _ _ _); (fail_if_success (with_reducible first | show wpAny _ _ (exec (Stmt.For _ _ _ _ _) _) _ _ _ | show wpAny _ _ (exec (Stmt.While _ _ _ _) _) _ _ _ | show wpAny _ _ (pyIter _) _ _ _ | show wpAny _ _ (call (Value.builtin "list.pop") _ _) _ _ _ | show wpAny _ _ (call (Value.builtin "str.join") _ _) _ _ _ | show wpAny _ _ (call (Value.builtin "max") _ _) _ _ _ | show wpAny _ _ (setItem _ _ _) _ _ _ | show wpAny _ _ (call (Value.builtin "str.replace") _ _) _ _ _ | show wpAny _ _ (call (Value.builtin "str.split") _ _) _ _ _ | show wpAny _ _ (call (Value.ref _) _ _) _ _ _ | show wpAny _ _ (eval (Expr.ListComp _ _ _ _) _) _ _ _ | show wpAny _ _ (exec (Stmt.Assign _ (Expr.ListComp _ _ _ _) _) _) _ _ _)); first | walk1 | (dsimp only; walk1)) | ((with_reducible show Frag.In _ _ ∧ _); (refine ⟨by k_in, ?_⟩); (try dsimp only [List.nil_append, List.cons_append])) | ((with_reducible show (if _ then _ else _)); walk1))
     rename_i F' N'
     dsimp only at N'
     have hcnt : Txt.count text (Str.ofString "=") = ((text.cps.toList.count 61 : Nat) : Int) := by
       rw [show Str.ofString "=" = ⟨#[61]⟩ from by decide +kernel]; exact count_list text 61
     rw [hcnt] at N'
     have hc2 := page_count hg
     have hpos := hg.pos
     have hl3 : ovs.length = 3 * (text.length / 4) := by rw [hoi.length]; unfold asInts; rw [List.length_map, octN_len]
     have hsl3 := kmk_upto (y := (ovs.length : Int) - ((text.cps.toList.count 61 : Nat) : Int)) hoi (by omega)
     generalize hsp : slicePick ovs.toArray none (some ((ovs.length : Int) - ((text.cps.toList.count 61 : Nat) : Int))) none = sp at N' hsl3
     refine bytes_K (vs := sp.toList) F' N' ⟨_, (N' _ (.head _)).1, rfl, _, rfl⟩ hsl3 ?_ ?_ hh ?_
     · intro n hn
       have hn2 := List.mem_of_mem_take hn
       obtain ⟨x, hx, rfl⟩ := List.mem_map.mp hn2
       have := octN_lt _ _ x hx
       omega
     · rw [hsl3.length, List.length_take]
       refine size_ok ?_
       unfold asInts
       rw [List.length_map, octN_len]
       omega
     intro h' t' k' F9 N9 _
     have hfin : (((asInts (octN text.cps.toList (text.length / 4))).take ((ovs.length : Int) - ((text.cps.toList.count 61 : Nat) : Int)).toNat).map fun n => n.toNat.toUInt8).toArray = ((dataOf text.cps.toList).map UInt8.ofNat).toArray := by
       unfold dataOf octs
       rw [octN_len, ← len_list, ← hl3]
       have e1 : ((ovs.length : Int) - ((text.cps.toList.count 61 : Nat) : Int)).toNat = ovs.length - text.cps.toList.count 61 := by omega
       rw [e1]
       unfold asInts
       rw [← List.map_take, List.map_map]
       rfl
     rw [hfin]
     repeat' (first | (k_unfold; (try dsimp only)) | ((with_reducible show wpAny _ _ (execs (_ :: _) _) _ _ _); refine execs_hide ?_; intro Qk9 kH9; (try dsimp only)) | ((with_reducible rename Hid _ _ _ => kH9); first | (refine hid_next kH9 ?_; clear kH9; (try clear Qk9)) | (refine hid_other kH9 (by nofun) ?_; clear kH9; (try clear Qk9)); (try dsimp only)) | ((with_reducible show wpAny _ _ (call (Value.builtin "str.index") _) _ _ _); k_dflt (refine index_ok (by assumption) ?_; (try dsimp only))) | ((with_reducible show wpAny _ _ (call (Value.builtin "len") [Value.ref _]) _ _ _); k_dflt (refine len_list_ok (by k_asm) (by k_mem) (by omega) ?_; (try dsimp only))) | ((with_reducible show wpAny _ _ (binaryOp Operator.Add (Value.str _ _) (Value.str _ _)) _ _ _); k_dflt (refine SB.add ?_ (add_fits (by walk_at "m_len") (by walk_at "m_len") (by decide +kernel)); intro _ _; (try dsimp only))) | ((with_reducible show wpAny _ _ (call (Value.builtin "len") [Value.str _ _]) _ _ _); k_dflt (refine len_str_ok (Nat.le_trans (by walk_at "m_len") (by decide +kernel)) ?_; (try dsimp only))) | ((with_reducible show wpAny _ _ (call (Value.builtin "list.append") [Value.ref _, _]) _ _ _); k_dflt (refine append_K (by k_asm) (by k_asm) (by k_upd) ?_ (by refine size_ok ?_; (try simp only [List.size_toArray]); omega); k_whole); intro _ _ _; (try k_sweep)) | ((with_reducible show wpAny _ _ (storeName (compEnvC _ _ _ _) _ _) _ _ _); k_dflt (refine cc_store (by assumption) (by assumption) (by exact rfl) (by exact rfl) ?_); intro _ _ _; (try k_sweep)) | ((with_reducible show wpAny _ _ (eval (Expr.Name _ _) (compEnvC _ _ _ _)) _ _ _); k_dflt (refine cc_load (by assumption) (by exact rfl) ?_ (by exact rfl) (by exact rfl) (by exact rfl))) | ((with_reducible show wpAny _ _ _ _ _ _); (fail_if_success (with_reducible first | show wpAny _ _ (exec (Stmt.For _ _ _ _ _) _) _ _ _ | show wpAny _ _ (exec (Stmt.While _ _ _ _) _) _ _ _ | show wpAny _ _ (pyIter _) _ _ _ | show wpAny _ _ (call (Value.builtin "list.pop") _ _) _ _ _ | show wpAny _ _ (call (Value.builtin "str.join") _ _) _ _ _ | show wpAny _ _ (call (Value.builtin "max") _ _) _ _ _ | show wpAny _ _ (setItem _ _ _) _ _ _ | show wpAny _ _ (call (Value.builtin "str.replace") _ _) _ _ _ | show wpAny _ _ (call (Value.builtin "str.split") _ _) _ _ _ | show wpAny _ _ (call (Value.ref _) _ _) _ _ _ | show wpAny _ _ (eval (Expr.ListComp _ _ _ _) _) _ _ _ | show wpAny _ _ (exec (Stmt.Assign _ (Expr.ListComp _ _ _ _) _) _) _ _ _)); first | walk1 | (dsimp only; walk1)) | ((with_reducible show Frag.In _ _ ∧ _); (refine ⟨by k_in, ?_⟩); (try dsimp only [List.nil_append, List.cons_append])) | ((with_reducible show (if _ then _ else _)); walk1))
     exact hR _ _ _ F9.keep)
end
end Part_oct

section Part_b64
theorem chr_cast (c b : Nat) (hb : b < 256) : Builtin.bitAnd (Builtin.bitOr ((c : Int) * 2 ^ Int.toNat 8) (b : Int)) 65535 = (((c * 256 + b) % 65536 : Nat) : Int) := by
  have e1 : (c : Int) * 2 ^ Int.toNat 8 = ((c * 256 : Nat) : Int) := by
    have : (2 : Int) ^ Int.toNat 8 = 256 := by decide
    rw [this]; omega
  have e2 : Builtin.bitOr ((c * 256 : Nat) : Int) (b : Int) = ((c * 256 + b : Nat) : Int) := by
    have h1 : ∀ n : Nat, Builtin.bitNot ((n : Nat) : Int) < 0 := fun n => by unfold Builtin.bitNot; omega
    have h2 : ∀ n : Nat, (Builtin.bitNot (Builtin.bitNot ((n : Nat) : Int))).toNat = n := fun n => by unfold Builtin.bitNot; omega
    unfold Builtin.bitOr Builtin.bitAnd
    have d1 : decide (0 ≤ Builtin.bitNot ((c * 256 : Nat) : Int)) = false := decide_eq_false (by have := h1 (c * 256); omega)
    have d2 : decide (0 ≤ Builtin.bitNot ((b : Nat) : Int)) = false := decide_eq_false (by have := h1 b; omega)
    rw [d1, d2]
    dsimp only
    rw [h2, h2]
    have h3 := Nat.two_pow_add_eq_or_of_lt (i := 8) (b := b) (by omega) c
    have h4 : c * 256 ||| b = c * 256 + b := by
      have : 2 ^ 8 * c = c * 256 := by omega
      rw [this] at h3
      exact h3.symm
    rw [h4]
    unfold Builtin.bitNot
    omega
  rw [e1, e2, bitAnd_m16]
  omega
theorem idx_cast (c n : Nat) (hn : 6 ≤ n) : Builtin.bitAnd (((c : Nat) : Int).fdiv (2 ^ ((n : Int) - 6).toNat)) 63 = (((c >>> (n - 6)) % 64 : Nat) : Int) := by
  rw [bitAnd_m6]
  have e1 : ((n : Int) - 6).toNat = n - 6 := by omega
  have e2 : (2 : Int) ^ (n - 6) = ((2 ^ (n - 6) : Nat) : Int) := (kbt_cast _).symm
  rw [e1, e2, Int.fdiv_eq_ediv_of_nonneg _ (Int.natCast_nonneg _), Nat.shiftRight_eq_div_pow]
  rfl
theorem b64_item {prog : Program} {w : World} {A : Around} {E : Value → Shared → Prop} {s : Shared} {value slice : Expr} {j : Nat} {t u : Tok} {Q : Value → Shared → Prop} (hj : j < 64)
    (h : ∀ t' k, Q (.int (b64 j : Nat) t') { s with toks := k })
    (hs : subscripted slice false (.bytes (b64L.map UInt8.ofNat).toArray t) (.int (j : Int) u) = operate [.bytes (b64L.map UInt8.ofNat).toArray t, .int (j : Int) u] (getItem (.bytes (b64L.map UInt8.ofNat).toArray t) (.int (j : Int) u)) := by with_unfolding_all rfl) (hg : ∀ r, letTemporaryGo value (.bytes (b64L.map UInt8.ofNat).toArray t) r = pure () := by intro _; with_unfolding_all rfl) :
    wpAny (model prog w) A (subscriptTail value slice (.bytes (b64L.map UInt8.ofNat).toArray t) (.int (j : Int) u)) Q E s := by
  refine bytes_item_K (x := b64L.map UInt8.ofNat) (k := (b64 j : Nat)) (by decide) (by omega) (by rw [List.length_map]; show (j : Int) < ((64 : Nat) : Int); omega) ?_ ?_ hs hg
  · have hl : j < b64L.length := hj
    unfold b64
    rw [Int.toNat_natCast, List.getD_eq_getElem?_getD, List.getD_eq_getElem?_getD, List.getElem?_map, List.getElem?_eq_getElem hl]
    have h2 : ∀ x ∈ b64L, x < 256 := by decide
    have h3 := h2 _ (List.getElem_mem hl)
    show (((UInt8.ofNat b64L[j]).toNat : Nat) : Int) = _
    rw [UInt8.toNat_ofNat_of_lt' (by omega)]
    rfl
  · exact h _ _
theorem bytes_end {prog : Program} {w : World} {A : Around} {E : Value → Shared → Prop} {s : Shared} {h₀ : Heap} {L D : Addr} {m : Str → Option Value} {news : List (Addr × Obj)} {vs : List Value} {ns : List Nat} {k : Nat} {Q : Value → Shared → Prop}
    (F : Fr h₀ L s.heap m) (N : News h₀ L s.heap news) (ha : (D, W.listOf vs.toArray k) ∈ news) (hi : IntsAre vs (asInts ns)) (hb : ∀ n ∈ ns, n < 256) (hz : ns.length ≤ 16777216) (hh : A.handled = none)
    (h : ∀ h' t k, Fr h₀ L h' m → News h₀ L h' news → Q (.bytes (ns.map UInt8.ofNat).toArray t) { s with heap := h', toks := k }) : wpAny (model prog w) A (call (.type "bytes") [.ref D]) Q E s := by
  refine bytes_K (vs := vs) F N ⟨_, (N _ ha).1, rfl, _, rfl⟩ hi ?_ ?_ hh ?_
  · intro n hn
    obtain ⟨x, hx, rfl⟩ := List.mem_map.mp hn
    have := hb x hx
    omega
  · rw [hi.length]; unfold asInts; rw [List.length_map]; exact size_ok hz
  · intro h' t k F' N' _
    have e : ((asInts ns).map fun n => n.toNat.toUInt8).toArray = (ns.map UInt8.ofNat).toArray := by
      unfold asInts
      rw [List.map_map]
      rfl
    rw [e]
    exact h h' t k F' N'
theorem ints_snoc {vs : List Value} {ns : List Nat} {n : Nat} {t : Tok} (h : IntsAre vs (asInts ns)) : IntsAre (vs ++ [.int (n : Int) t]) (asInts (ns ++ [n])) := by
  unfold asInts
  rw [List.map_append]
  exact IntsAre.append h (.cons _ _ .nil)
section
variable {w : World} {A : Around} {s : Shared} {R : Result → Shared → Prop} {p : Program} {loose : List Str} {mean : ExcName → Option Value} {mg mb : Str → Option Value}
set_option maxHeartbeats 8000000 in
theorem buffer_call {d : Array UInt8} {td : Tok} (X : (hk.heap_1 w.params).In s.heap) (T : Top p loose mean mg mb s.heap) (hA : A.depth < 600)
  (hR : ∀ h' tk, Stays s.heap h' → R (.ok (.ret (.bytes d td))) { s with heap := h', toks := tk }) :
  codeAny (model lw.row.prog w) A (.call (.ref 35) ⟨[.bytes d td], []⟩) R s := by
  revert X
  k_fill
  intro X
  w_strict (
   w_top off
   refine' callOwn (binds := [(Str.ofString "data", .bytes d td)]) ?k1 ?k2 ?k3 ?k4 ?k5 ?k6 ?k7 ?_ ?c1 ?c2 ?c3 ?c4
   (case k1 => exact X)
   (case k2 => exact T.nolimit)
   (case k3 => k_is)
   (case k4 => k_is)
   (case k5 => show A.depth < 1000; omega)
   (case k6 => exact BindsTo.of_eq rfl)
   (case k7 => exact locs rfl)
   (case c1 => exact rfl)
   (case c2 => exact rfl)
   (case c3 => exact rfl)
   (case c4 => decide)
   intro h₁ F
   have N : News s.heap s.heap.objs.size h₁ [] := News.nil
   (try dsimp only); (try k_fold)
   repeat' (first | (k_unfold; (try dsimp only)) | ((with_reducible show wpAny _ _ (execs (_ :: _) _) _ _ _); refine execs_hide ?_; intro Qk9 kH9; (try dsimp only)) | ((with_reducible rename Hid _ _ _ => kH9); first | (refine hid_next kH9 ?_; clear kH9; (try clear Qk9)) | (refine hid_other kH9 (by nofun) ?_; clear kH9; (try clear Qk9)); (try dsimp only)) | ((with_reducible show wpAny _ _ (call _ [Value.bytes _ _]) _ _ _); k_dflt (refine call_type_of (Tx := "bytes") rfl (by decide +kernel) ?_)) | ((with_reducible show wpAny _ _ (binaryOp Operator.Add (Value.str _ _) (Value.str _ _)) _ _ _); k_dflt (refine SB.add ?_ (add_fits (by walk_at "m_len") (by walk_at "m_len") (by decide +kernel)); intro _ _; (try dsimp only))) | ((with_reducible show wpAny _ _ (call (Value.builtin "len") [Value.str _ _]) _ _ _); k_dflt (refine len_str_ok (Nat.le_trans (by walk_at "m_len") (by decide +kernel)) ?_; (try dsimp only))) | ((with_reducible show wpAny _ _ (call (Value.builtin "list.append") [Value.ref _, _]) _ _ _); k_dflt (refine append_K (by k_asm) (by k_asm) (by k_upd) ?_ (by refine size_ok ?_; (try simp only [List.size_toArray]); omega); k_whole); intro _ _ _; (try k_sweep)) | ((with_reducible show wpAny _ _ (storeName (compEnvC _ _ _ _) _ _) _ _ _); k_dflt (refine cc_store (by assumption) (by assumption) (by exact rfl) (by exact rfl) ?_); intro _ _ _; (try k_sweep)) | ((with_reducible show wpAny _ _ (eval (Expr.Name _ _) (compEnvC _ _ _ _)) _ _ _); k_dflt (refine cc_load (by assumption) (by exact rfl) ?_ (by exact rfl) (by exact rfl) (by exact rfl))) | ((with_reducible show wpAny _ _ _ _ _ _); (fail_if_success (with_reducible first | show wpAny _ _ (exec (Stmt.For _ _ _ _ _) _) _ _ _ | show wpAny _ _ (exec (Stmt.While _ _ _ _) _) _ _ _ | show wpAny _ _ (pyIter _) _ _ _ | show wpAny _ _ (call (Value.builtin "list.pop") _ _) _ _ _ | show wpAny _ _ (call (Value.builtin "str.join") _ _) _ _ _ | show wpAny _ _ (call (Value.builtin "max") _ _) _ _ _ | show wpAny _ _ (setItem _ _ _) _ _ _ | show wpAny _ _ (call (Value.builtin "str.replace") _ _) _ _ _ | show wpAny _ _ (call (Value.builtin "str.split") _ _) _ _ _ | show wpAny _ _ (call (Value.ref _) _ _) _ _ _ | show wpAny _ _ (eval (Expr.ListComp _ _ _ _) _) _ _ _ | show wpAny _ _ (exec (Stmt.Assign _ (Expr.ListComp _ _ _ _) _) _) _ _ _)); first | walk1 | (dsimp only; walk1)) | ((with_reducible show Frag.In _ _ ∧ _); (refine ⟨by k_in, ?_⟩); (try dsimp only [List.nil_append, List.cons_append])) | ((with_reducible show (if _ then _ else _)); walk1))
   rename_i F' N'
   try dsimp only
   exact hR _ _ F'.keep)
set_option maxHeartbeats 8000000 in
theorem truth_call (X : (hk.heap_1 w.params).In s.heap) (T : Top p loose mean mg mb s.heap) (hA : A.depth < 600)
  (hR : ∀ h' tk, Stays s.heap h' → R (.ok (.ret (.bool false))) { s with heap := h', toks := tk }) :
  codeAny (model lw.row.prog w) A (.call (.ref 42) ⟨[.bool false], []⟩) R s := by
  revert X
  k_fill
  intro X
  w_strict (
   w_top off
   refine' callOwn (binds := [(Str.ofString "x", .bool false)]) ?k1 ?k2 ?k3 ?k4 ?k5 ?k6 ?k7 ?_ ?c1 ?c2 ?c3 ?c4
   (case k1 => exact X)
   (case k2 => exact T.nolimit)
   (case k3 => k_is)
   (case k4 => k_is)
   (case k5 => show A.depth < 1000; omega)
   (case k6 => exact BindsTo.of_eq rfl)
   (case k7 => exact locs rfl)
   (case c1 => exact rfl)
   (case c2 => exact rfl)
   (case c3 => exact rfl)
   (case c4 => decide)
   intro h₁ F
   have N : News s.heap s.heap.objs.size h₁ [] := News.nil
   (try dsimp only); (try k_fold)
   repeat' (first | (k_unfold; (try dsimp only)) | ((with_reducible show wpAny _ _ (execs (_ :: _) _) _ _ _); refine execs_hide ?_; intro Qk9 kH9; (try dsimp only)) | ((with_reducible rename Hid _ _ _ => kH9); first | (refine hid_next kH9 ?_; clear kH9; (try clear Qk9)) | (refine hid_other kH9 (by nofun) ?_; clear kH9; (try clear Qk9)); (try dsimp only)) | ((with_reducible show wpAny _ _ (call _ [Value.bytes _ _]) _ _ _); k_dflt (refine call_type_of (Tx := "bytes") rfl (by decide +kernel) ?_)) | ((with_reducible show wpAny _ _ (binaryOp Operator.Add (Value.str _ _) (Value.str _ _)) _ _ _); k_dflt (refine SB.add ?_ (add_fits (by walk_at "m_len") (by walk_at "m_len") (by decide +kernel)); intro _ _; (try dsimp only))) | ((with_reducible show wpAny _ _ (call (Value.builtin "len") [Value.str _ _]) _ _ _); k_dflt (refine len_str_ok (Nat.le_trans (by walk_at "m_len") (by decide +kernel)) ?_; (try dsimp only))) | ((with_reducible show wpAny _ _ (call (Value.builtin "list.append") [Value.ref _, _]) _ _ _); k_dflt (refine append_K (by k_asm) (by k_asm) (by k_upd) ?_ (by refine size_ok ?_; (try simp only [List.size_toArray]); omega); k_whole); intro _ _ _; (try k_sweep)) | ((with_reducible show wpAny _ _ (storeName (compEnvC _ _ _ _) _ _) _ _ _); k_dflt (refine cc_store (by assumption) (by assumption) (by exact rfl) (by exact rfl) ?_); intro _ _ _; (try k_sweep)) | ((with_reducible show wpAny _ _ (eval (Expr.Name _ _) (compEnvC _ _ _ _)) _ _ _); k_dflt (refine cc_load (by assumption) (by exact rfl) ?_ (by exact rfl) (by exact rfl) (by exact rfl))) | ((with_reducible show wpAny _ _ _ _ _ _); (fail_if_success (with_reducible first | show wpAny _ _ (exec (Stmt.For _ _ _ _ _) _) _ _ _ | show wpAny _ _ (exec (Stmt.While _ _ _ _) _) _ _ _ | show wpAny _ _ (pyIter _) _ _ _ | show wpAny _ _ (call (Value.builtin "list.pop") _ _) _ _ _ | show wpAny _ _ (call (Value.builtin "str.join") _ _) _ _ _ | show wpAny _ _ (call (Value.builtin "max") _ _) _ _ _ | show wpAny _ _ (setItem _ _ _) _ _ _ | show wpAny _ _ (call (Value.builtin "str.replace") _ _) _ _ _ | show wpAny _ _ (call (Value.builtin "str.split") _ _) _ _ _ | show wpAny _ _ (call (Value.ref _) _ _) _ _ _ | show wpAny _ _ (eval (Expr.ListComp _ _ _ _) _) _ _ _ | show wpAny _ _ (exec (Stmt.Assign _ (Expr.ListComp _ _ _ _) _) _) _ _ _)); first | walk1 | (dsimp only; walk1)) | ((with_reducible show Frag.In _ _ ∧ _); (refine ⟨by k_in, ?_⟩); (try dsimp only [List.nil_append, List.cons_append])) | ((with_reducible show (if _ then _ else _)); walk1))
   rename_i F' N'
   try dsimp only
   exact hR _ _ F'.keep)
set_option maxHeartbeats 8000000 in
theorem b2a_call {d : Array UInt8} {td : Tok} (X : (hk.heap_1 w.params).In s.heap) (T : Top p loose mean mg mb s.heap) (hA : A.depth < 500) (hh : A.handled = none) (hds : d.size ≤ 1000)
  (hR : ∀ h' tk t, Stays s.heap h' → R (.ok (.ret (.bytes ((encode (d.toList.map UInt8.toNat)).map UInt8.ofNat).toArray t))) { s with heap := h', toks := tk }) :
  codeAny (model lw.row.prog w) A (.call (.ref 50) ⟨[.bytes d td], [(Str.ofString "newline", .bool false)]⟩) R s := by
  revert X
  k_fill
  intro X
  w_strict (
   w_top off
   refine' callOwn (binds := [(Str.ofString "data", .bytes d td), (Str.ofString "newline", .bool false)]) ?k1 ?k2 ?k3 ?k4 ?k5 ?k6 ?k7 ?_ ?c1 ?c2 ?c3 ?c4
   (case k1 => exact X)
   (case k2 => exact T.nolimit)
   (case k3 => k_is)
   (case k4 => k_is)
   (case k5 => show A.depth < 1000; omega)
   (case k6 => exact BindsTo.of_eq rfl)
   (case k7 => exact locs rfl)
   (case c1 => exact rfl)
   (case c2 => exact rfl)
   (case c3 => exact rfl)
   (case c4 => decide)
   intro h₁ F
   have N : News s.heap s.heap.objs.size h₁ [] := News.nil
   (try dsimp only); (try k_fold)
   repeat' (first | (k_unfold; (try dsimp only)) | ((with_reducible show wpAny _ _ (execs (_ :: _) _) _ _ _); refine execs_hide ?_; intro Qk9 kH9; (try dsimp only)) | ((with_reducible rename Hid _ _ _ => kH9); first | (refine hid_next kH9 ?_; clear kH9; (try clear Qk9)) | (refine hid_other kH9 (by nofun) ?_; clear kH9; (try clear Qk9)); (try dsimp only)) | ((with_reducible show wpAny _ _ (call _ [Value.bytes _ _]) _ _ _); k_dflt (refine call_type_of (Tx := "bytes") rfl (by decide +kernel) ?_)) | ((with_reducible show wpAny _ _ (binaryOp Operator.Add (Value.str _ _) (Value.str _ _)) _ _ _); k_dflt (refine SB.add ?_ (add_fits (by walk_at "m_len") (by walk_at "m_len") (by decide +kernel)); intro _ _; (try dsimp only))) | ((with_reducible show wpAny _ _ (call (Value.builtin "len") [Value.str _ _]) _ _ _); k_dflt (refine len_str_ok (Nat.le_trans (by walk_at "m_len") (by decide +kernel)) ?_; (try dsimp only))) | ((with_reducible show wpAny _ _ (call (Value.builtin "list.append") [Value.ref _, _]) _ _ _); k_dflt (refine append_K (by k_asm) (by k_asm) (by k_upd) ?_ (by refine size_ok ?_; (try simp only [List.size_toArray]); omega); k_whole); intro _ _ _; (try k_sweep)) | ((with_reducible show wpAny _ _ (storeName (compEnvC _ _ _ _) _ _) _ _ _); k_dflt (refine cc_store (by assumption) (by assumption) (by exact rfl) (by exact rfl) ?_); intro _ _ _; (try k_sweep)) | ((with_reducible show wpAny _ _ (eval (Expr.Name _ _) (compEnvC _ _ _ _)) _ _ _); k_dflt (refine cc_load (by assumption) (by exact rfl) ?_ (by exact rfl) (by exact rfl) (by exact rfl))) | ((with_reducible show wpAny _ _ _ _ _ _); (fail_if_success (with_reducible first | show wpAny _ _ (exec (Stmt.For _ _ _ _ _) _) _ _ _ | show wpAny _ _ (exec (Stmt.While _ _ _ _) _) _ _ _ | show wpAny _ _ (pyIter _) _ _ _ | show wpAny _ _ (call (Value.builtin "list.pop") _ _) _ _ _ | show wpAny _ _ (call (Value.builtin "str.join") _ _) _ _ _ | show wpAny _ _ (call (Value.builtin "max") _ _) _ _ _ | show wpAny _ _ (setItem _ _ _) _ _ _ | show wpAny _ _ (call (Value.builtin "str.replace") _ _) _ _ _ | show wpAny _ _ (call (Value.builtin "str.split") _ _) _ _ _ | show wpAny _ _ (call (Value.ref _) _ _) _ _ _ | show wpAny _ _ (eval (Expr.ListComp _ _ _ _) _) _ _ _ | show wpAny _ _ (exec (Stmt.Assign _ (Expr.ListComp _ _ _ _) _) _) _ _ _)); first | walk1 | (dsimp only; walk1)) | ((with_reducible show Frag.In _ _ ∧ _); (refine ⟨by k_in, ?_⟩); (try dsimp only [List.nil_append, List.cons_append])) | ((with_reducible show (if _ then _ else _)); walk1))
   refine' wpAny_call (buffer_call ?x ?t ?a ?_)
   case x => exact X.keeps F.keep
   case t => exact T.keeps F.keep
   case a => show A.depth + 1 < 600; omega
   intro h₂ tk₂ st₂
   replace F := fr_stays F st₂
   replace N := news_stays N st₂
   dsimp only
   repeat' (first | (k_unfold; (try dsimp only)) | ((with_reducible show wpAny _ _ (execs (_ :: _) _) _ _ _); refine execs_hide ?_; intro Qk9 kH9; (try dsimp only)) | ((with_reducible rename Hid _ _ _ => kH9); first | (refine hid_next kH9 ?_; clear kH9; (try clear Qk9)) | (refine hid_other kH9 (by nofun) ?_; clear kH9; (try clear Qk9)); (try dsimp only)) | ((with_reducible show wpAny _ _ (call _ [Value.bytes _ _]) _ _ _); k_dflt (refine call_type_of (Tx := "bytes") rfl (by decide +kernel) ?_)) | ((with_reducible show wpAny _ _ (binaryOp Operator.Add (Value.str _ _) (Value.str _ _)) _ _ _); k_dflt (refine SB.add ?_ (add_fits (by walk_at "m_len") (by walk_at "m_len") (by decide +kernel)); intro _ _; (try dsimp only))) | ((with_reducible show wpAny _ _ (call (Value.builtin "len") [Value.str _ _]) _ _ _); k_dflt (refine len_str_ok (Nat.le_trans (by walk_at "m_len") (by decide +kernel)) ?_; (try dsimp only))) | ((with_reducible show wpAny _ _ (call (Value.builtin "list.append") [Value.ref _, _]) _ _ _); k_dflt (refine append_K (by k_asm) (by k_asm) (by k_upd) ?_ (by refine size_ok ?_; (try simp only [List.size_toArray]); omega); k_whole); intro _ _ _; (try k_sweep)) | ((with_reducible show wpAny _ _ (storeName (compEnvC _ _ _ _) _ _) _ _ _); k_dflt (refine cc_store (by assumption) (by assumption) (by exact rfl) (by exact rfl) ?_); intro _ _ _; (try k_sweep)) | ((with_reducible show wpAny _ _ (eval (Expr.Name _ _) (compEnvC _ _ _ _)) _ _ _); k_dflt (refine cc_load (by assumption) (by exact rfl) ?_ (by exact rfl) (by exact rfl) (by exact rfl))) | ((with_reducible show wpAny _ _ _ _ _ _); (fail_if_success (with_reducible first | show wpAny _ _ (exec (Stmt.For _ _ _ _ _) _) _ _ _ | show wpAny _ _ (exec (Stmt.While _ _ _ _) _) _ _ _ | show wpAny _ _ (pyIter _) _ _ _ | show wpAny _ _ (call (Value.builtin "list.pop") _ _) _ _ _ | show wpAny _ _ (call (Value.builtin "str.join") _ _) _ _ _ | show wpAny _ _ (call (Value.builtin "max") _ _) _ _ _ | show wpAny _ _ (setItem _ _ _) _ _ _ | show wpAny _ _ (call (Value.builtin "str.replace") _ _) _ _ _ | show wpAny _ _ (call (Value.builtin "str.split") _ _) _ _ _ | show wpAny _ _ (call (Value.ref _) _ _) _ _ _ | show wpAny _ _ (eval (Expr.ListComp _ _ _ _) _) _ _ _ | show wpAny _ _ (exec (Stmt.Assign _ (Expr.ListComp _ _ _ _) _) _) _ _ _)); first | walk1 | (dsimp only; walk1)) | ((with_reducible show Frag.In _ _ ∧ _); (refine ⟨by k_in, ?_⟩); (try dsimp only [List.nil_append, List.cons_append])) | ((with_reducible show (if _ then _ else _)); walk1))
   rename_i F' N'
   refine' wpAny_call (truth_call ?x ?t ?a ?_)
   case x => exact X.keeps F'.keep
   case t => exact T.keeps F'.keep
   case a => show A.depth + 1 < 600; omega
   intro h₃ tk₃ st₃
   replace F := fr_stays F' st₃
   replace N := news_stays N' st₃
   clear F' N'
   dsimp only
   repeat' (first | (k_unfold; (try dsimp only)) | ((with_reducible show wpAny _ _ (execs (_ :: _) _) _ _ _); refine execs_hide ?_; intro Qk9 kH9; (try dsimp only)) | ((with_reducible rename Hid _ _ _ => kH9); first | (refine hid_next kH9 ?_; clear kH9; (try clear Qk9)) | (refine hid_other kH9 (by nofun) ?_; clear kH9; (try clear Qk9)); (try dsimp only)) | ((with_reducible show wpAny _ _ (call _ [Value.bytes _ _]) _ _ _); k_dflt (refine call_type_of (Tx := "bytes") rfl (by decide +kernel) ?_)) | ((with_reducible show wpAny _ _ (binaryOp Operator.Add (Value.str _ _) (Value.str _ _)) _ _ _); k_dflt (refine SB.add ?_ (add_fits (by walk_at "m_len") (by walk_at "m_len") (by decide +kernel)); intro _ _; (try dsimp only))) | ((with_reducible show wpAny _ _ (call (Value.builtin "len") [Value.str _ _]) _ _ _); k_dflt (refine len_str_ok (Nat.le_trans (by walk_at "m_len") (by decide +kernel)) ?_; (try dsimp only))) | ((with_reducible show wpAny _ _ (call (Value.builtin "list.append") [Value.ref _, _]) _ _ _); k_dflt (refine append_K (by k_asm) (by k_asm) (by k_upd) ?_ (by refine size_ok ?_; (try simp only [List.size_toArray]); omega); k_whole); intro _ _ _; (try k_sweep)) | ((with_reducible show wpAny _ _ (storeName (compEnvC _ _ _ _) _ _) _ _ _); k_dflt (refine cc_store (by assumption) (by assumption) (by exact rfl) (by exact rfl) ?_); intro _ _ _; (try k_sweep)) | ((with_reducible show wpAny _ _ (eval (Expr.Name _ _) (compEnvC _ _ _ _)) _ _ _); k_dflt (refine cc_load (by assumption) (by exact rfl) ?_ (by exact rfl) (by exact rfl) (by exact rfl))) | ((with_reducible show wpAny _ _ _ _ _ _); (fail_if_success (with_reducible first | show wpAny _ _ (exec (Stmt.For _ _ _ _ _) _) _ _ _ | show wpAny _ _ (exec (Stmt.While _ _ _ _) _) _ _ _ | show wpAny _ _ (pyIter _) _ _ _ | show wpAny _ _ (call (Value.builtin "list.pop") _ _) _ _ _ | show wpAny _ _ (call (Value.builtin "str.join") _ _) _ _ _ | show wpAny _ _ (call (Value.builtin "max") _ _) _ _ _ | show wpAny _ _ (setItem _ _ _) _ _ _ | show wpAny _ _ (call (Value.builtin "str.replace") _ _) _ _ _ | show wpAny _ _ (call (Value.builtin "str.split") _ _) _ _ _ | show wpAny _ _ (call (Value.ref _) _ _) _ _ _ | show wpAny _ _ (eval (Expr.ListComp _ _ _ _) _) _ _ _ | show wpAny _ _ (exec (Stmt.Assign _ (Expr.ListComp _ _ _ _) _) _) _ _ _)); first | walk1 | (dsimp only; walk1)) | ((with_reducible show Frag.In _ _ ∧ _); (refine ⟨by k_in, ?_⟩); (try dsimp only [List.nil_append, List.cons_append])) | ((with_reducible show (if _ then _ else _)); walk1))
   refine for_inv (h₀ := s.heap) ?_
   repeat' (first | (k_unfold; (try dsimp only)) | ((with_reducible show wpAny _ _ (execs (_ :: _) _) _ _ _); refine execs_hide ?_; intro Qk9 kH9; (try dsimp only)) | ((with_reducible rename Hid _ _ _ => kH9); first | (refine hid_next kH9 ?_; clear kH9; (try clear Qk9)) | (refine hid_other kH9 (by nofun) ?_; clear kH9; (try clear Qk9)); (try dsimp only)) | ((with_reducible show wpAny _ _ (call _ [Value.bytes _ _]) _ _ _); k_dflt (refine call_type_of (Tx := "bytes") rfl (by decide +kernel) ?_)) | ((with_reducible show wpAny _ _ (binaryOp Operator.Add (Value.str _ _) (Value.str _ _)) _ _ _); k_dflt (refine SB.add ?_ (add_fits (by walk_at "m_len") (by walk_at "m_len") (by decide +kernel)); intro _ _; (try dsimp only))) | ((with_reducible show wpAny _ _ (call (Value.builtin "len") [Value.str _ _]) _ _ _); k_dflt (refine len_str_ok (Nat.le_trans (by walk_at "m_len") (by decide +kernel)) ?_; (try dsimp only))) | ((with_reducible show wpAny _ _ (call (Value.builtin "list.append") [Value.ref _, _]) _ _ _); k_dflt (refine append_K (by k_asm) (by k_asm) (by k_upd) ?_ (by refine size_ok ?_; (try simp only [List.size_toArray]); omega); k_whole); intro _ _ _; (try k_sweep)) | ((with_reducible show wpAny _ _ (storeName (compEnvC _ _ _ _) _ _) _ _ _); k_dflt (refine cc_store (by assumption) (by assumption) (by exact rfl) (by exact rfl) ?_); intro _ _ _; (try k_sweep)) | ((with_reducible show wpAny _ _ (eval (Expr.Name _ _) (compEnvC _ _ _ _)) _ _ _); k_dflt (refine cc_load (by assumption) (by exact rfl) ?_ (by exact rfl) (by exact rfl) (by exact rfl))) | ((with_reducible show wpAny _ _ _ _ _ _); (fail_if_success (with_reducible first | show wpAny _ _ (exec (Stmt.For _ _ _ _ _) _) _ _ _ | show wpAny _ _ (exec (Stmt.While _ _ _ _) _) _ _ _ | show wpAny _ _ (pyIter _) _ _ _ | show wpAny _ _ (call (Value.builtin "list.pop") _ _) _ _ _ | show wpAny _ _ (call (Value.builtin "str.join") _ _) _ _ _ | show wpAny _ _ (call (Value.builtin "max") _ _) _ _ _ | show wpAny _ _ (setItem _ _ _) _ _ _ | show wpAny _ _ (call (Value.builtin "str.replace") _ _) _ _ _ | show wpAny _ _ (call (Value.builtin "str.split") _ _) _ _ _ | show wpAny _ _ (call (Value.ref _) _ _) _ _ _ | show wpAny _ _ (eval (Expr.ListComp _ _ _ _) _) _ _ _ | show wpAny _ _ (exec (Stmt.Assign _ (Expr.ListComp _ _ _ _) _) _) _ _ _)); first | walk1 | (dsimp only; walk1)) | ((with_reducible show Frag.In _ _ ∧ _); (refine ⟨by k_in, ?_⟩); (try dsimp only [List.nil_append, List.cons_append])) | ((with_reducible show (if _ then _ else _)); walk1))
   rename_i ao _ _ _ _ _ F N
   refine iter_bytes (fun i g m₁ news₁ => ∃ tb tc ovs k, (∀ q ∈ [(Str.ofString "out", Value.ref ao), (Str.ofString "newline", .bool false), (Str.ofString "leftbits", .int ((encAll ((d.toList.map UInt8.toNat).take i)).bits : Nat) tb), (Str.ofString "leftchar", .int ((encAll ((d.toList.map UInt8.toNat).take i)).chr : Nat) tc)], m₁ q.1 = some q.2) ∧
      news₁ = [(ao, W.listOf ovs.toArray k)] ∧ IntsAre ovs (asInts (encAll ((d.toList.map UInt8.toNat).take i)).out) ∧ g = s.gens) hh F N ?_ ?_ ?_
   · exact ⟨_, _, _, _, by kst_all, rfl, .nil, rfl⟩
   · rintro I i v m₁ news₁ g h tk oI hin ⟨b, ub, hb, rfl⟩ ⟨tb, tc, ovs, k, hm, rfl, hoi, rfl⟩ hoff htk F₁ N₁
     replace F₁ := fr_kst _ F₁ hm
     simp only [kstB] at F₁
     change Fr s.heap s.heap.objs.size h _ at F₁
     change News s.heap s.heap.objs.size h _ at N₁
     have hoff1 := neN (hoff _ (.head _))
     dsimp only at hoff1
     have hen := encAll_ok ((d.toList.map UInt8.toNat).take i)
     have hb2 : b.toNat < 256 := b.toNat_lt
     have hin2 : ((d.toList.map UInt8.toNat).take i).length ≤ 1000 := by rw [List.length_take, List.length_map]; have : d.toList.length = d.size := Array.length_toList; omega
     have htake : (d.toList.map UInt8.toNat).take (i + 1) = (d.toList.map UInt8.toNat).take i ++ [b.toNat] := by
       have : (d.toList.map UInt8.toNat)[i]? = some b.toNat := by rw [List.getElem?_map]; simp [hb]
       simp [List.take_add_one, this]
     have hstep := encAll_snoc ((d.toList.map UInt8.toNat).take i) b.toNat
     rw [← htake] at hstep
     generalize encAll ((d.toList.map UInt8.toNat).take i) = en at *
     clear hm F N
     (try k_fold)
     repeat' (first | (k_unfold; (try dsimp only)) | ((with_reducible show wpAny _ _ (execs (_ :: _) _) _ _ _); refine execs_hide ?_; intro Qk9 kH9; (try dsimp only)) | ((with_reducible rename Hid _ _ _ => kH9); first | (refine hid_next kH9 ?_; clear kH9; (try clear Qk9)) | (refine hid_other kH9 (by nofun) ?_; clear kH9; (try clear Qk9)); (try dsimp only)) | ((with_reducible show wpAny _ _ (call _ [Value.bytes _ _]) _ _ _); k_dflt (refine call_type_of (Tx := "bytes") rfl (by decide +kernel) ?_)) | ((with_reducible show wpAny _ _ (binaryOp Operator.Add (Value.str _ _) (Value.str _ _)) _ _ _); k_dflt (refine SB.add ?_ (add_fits (by walk_at "m_len") (by walk_at "m_len") (by decide +kernel)); intro _ _; (try dsimp only))) | ((with_reducible show wpAny _ _ (call (Value.builtin "len") [Value.str _ _]) _ _ _); k_dflt (refine len_str_ok (Nat.le_trans (by walk_at "m_len") (by decide +kernel)) ?_; (try dsimp only))) | ((with_reducible show wpAny _ _ (call (Value.builtin "list.append") [Value.ref _, _]) _ _ _); k_dflt (refine append_K (by k_asm) (by k_asm) (by k_upd) ?_ (by refine size_ok ?_; (try simp only [List.size_toArray]); omega); k_whole); intro _ _ _; (try k_sweep)) | ((with_reducible show wpAny _ _ (storeName (compEnvC _ _ _ _) _ _) _ _ _); k_dflt (refine cc_store (by assumption) (by assumption) (by exact rfl) (by exact rfl) ?_); intro _ _ _; (try k_sweep)) | ((with_reducible show wpAny _ _ (eval (Expr.Name _ _) (compEnvC _ _ _ _)) _ _ _); k_dflt (refine cc_load (by assumption) (by exact rfl) ?_ (by exact rfl) (by exact rfl) (by exact rfl))) | ((with_reducible show wpAny _ _ _ _ _ _); (fail_if_success (with_reducible first | show wpAny _ _ (exec (Stmt.For _ _ _ _ _) _) _ _ _ | show wpAny _ _ (exec (Stmt.While _ _ _ _) _) _ _ _ | show wpAny _ _ (pyIter _) _ _ _ | show wpAny _ _ (call (Value.builtin "list.pop") _ _) _ _ _ | show wpAny _ _ (call (Value.builtin "str.join") _ _) _ _ _ | show wpAny _ _ (call (Value.builtin "max") _ _) _ _ _ | show wpAny _ _ (setItem _ _ _) _ _ _ | show wpAny _ _ (call (Value.builtin "str.replace") _ _) _ _ _ | show wpAny _ _ (call (Value.builtin "str.split") _ _) _ _ _ | show wpAny _ _ (call (Value.ref _) _ _) _ _ _ | show wpAny _ _ (eval (Expr.ListComp _ _ _ _) _) _ _ _ | show wpAny _ _ (exec (Stmt.Assign _ (Expr.ListComp _ _ _ _) _) _) _ _ _)); first | walk1 | (dsimp only; walk1)) | ((with_reducible show Frag.In _ _ ∧ _); (refine ⟨by k_in, ?_⟩); (try dsimp only [List.nil_append, List.cons_append])) | ((with_reducible show (if _ then _ else _)); walk1))
     rename_i F' N'
     rw [chr_cast _ _ hb2] at F'
     have hovl : ovs.length ≤ 14000 := by rw [hoi.length]; unfold asInts; rw [List.length_map]; omega
     refine while_inv (fun n s' => ∃ h' tk tb tc ovs k bits out m₂, s' = { s with heap := h', toks := tk } ∧ Fr s.heap s.heap.objs.size h' m₂ ∧
       (∀ q ∈ [(Str.ofString "out", Value.ref ao), (Str.ofString "newline", .bool false), (Str.ofString "leftbits", .int (bits : Nat) tb), (Str.ofString "leftchar", .int ((en.chr * 256 + b.toNat) % 65536 : Nat) tc)], m₂ q.1 = some q.2) ∧
       News s.heap s.heap.objs.size h' [(I, oI), (ao, W.listOf ovs.toArray k)] ∧ IntsAre ovs (asInts out) ∧ emit ((en.chr * 256 + b.toNat) % 65536) bits out = emit ((en.chr * 256 + b.toNat) % 65536) (en.bits + 8) en.out ∧ bits ≤ 13 ∧ ovs.length ≤ 14100 - bits ∧ n = bits) ?_ (en.bits + 8) ?_
     · rintro n s' ⟨h2, tk2, tb2, tc2, ovs2, k2, bits, out, m₂, rfl, F₂, hm2, N₂, hoi2, hem, hb13, hov2, rfl⟩
       replace F₂ := fr_kst _ F₂ hm2
       simp only [kstB] at F₂
       clear hm2 F' N'
       repeat' (first | (k_unfold; (try dsimp only)) | ((with_reducible show wpAny _ _ (execs (_ :: _) _) _ _ _); refine execs_hide ?_; intro Qk9 kH9; (try dsimp only)) | ((with_reducible rename Hid _ _ _ => kH9); first | (refine hid_next kH9 ?_; clear kH9; (try clear Qk9)) | (refine hid_other kH9 (by nofun) ?_; clear kH9; (try clear Qk9)); (try dsimp only)) | ((with_reducible show wpAny _ _ (call _ [Value.bytes _ _]) _ _ _); k_dflt (refine call_type_of (Tx := "bytes") rfl (by decide +kernel) ?_)) | ((with_reducible show wpAny _ _ (binaryOp Operator.Add (Value.str _ _) (Value.str _ _)) _ _ _); k_dflt (refine SB.add ?_ (add_fits (by walk_at "m_len") (by walk_at "m_len") (by decide +kernel)); intro _ _; (try dsimp only))) | ((with_reducible show wpAny _ _ (call (Value.builtin "len") [Value.str _ _]) _ _ _); k_dflt (refine len_str_ok (Nat.le_trans (by walk_at "m_len") (by decide +kernel)) ?_; (try dsimp only))) | ((with_reducible show wpAny _ _ (call (Value.builtin "list.append") [Value.ref _, _]) _ _ _); k_dflt (refine append_K (by k_asm) (by k_asm) (by k_upd) ?_ (by refine size_ok ?_; (try simp only [List.size_toArray]); omega); k_whole); intro _ _ _; (try k_sweep)) | ((with_reducible show wpAny _ _ (storeName (compEnvC _ _ _ _) _ _) _ _ _); k_dflt (refine cc_store (by assumption) (by assumption) (by exact rfl) (by exact rfl) ?_); intro _ _ _; (try k_sweep)) | ((with_reducible show wpAny _ _ (eval (Expr.Name _ _) (compEnvC _ _ _ _)) _ _ _); k_dflt (refine cc_load (by assumption) (by exact rfl) ?_ (by exact rfl) (by exact rfl) (by exact rfl))) | ((with_reducible show wpAny _ _ _ _ _ _); (fail_if_success (with_reducible first | show wpAny _ _ (exec (Stmt.For _ _ _ _ _) _) _ _ _ | show wpAny _ _ (exec (Stmt.While _ _ _ _) _) _ _ _ | show wpAny _ _ (pyIter _) _ _ _ | show wpAny _ _ (call (Value.builtin "list.pop") _ _) _ _ _ | show wpAny _ _ (call (Value.builtin "str.join") _ _) _ _ _ | show wpAny _ _ (call (Value.builtin "max") _ _) _ _ _ | show wpAny _ _ (setItem _ _ _) _ _ _ | show wpAny _ _ (call (Value.builtin "str.replace") _ _) _ _ _ | show wpAny _ _ (call (Value.builtin "str.split") _ _) _ _ _ | show wpAny _ _ (call (Value.ref _) _ _) _ _ _ | show wpAny _ _ (eval (Expr.ListComp _ _ _ _) _) _ _ _ | show wpAny _ _ (exec (Stmt.Assign _ (Expr.ListComp _ _ _ _) _) _) _ _ _)); first | walk1 | (dsimp only; walk1)) | ((with_reducible show Frag.In _ _ ∧ _); (refine ⟨by k_in, ?_⟩); (try dsimp only [List.nil_append, List.cons_append])) | ((with_reducible show (if _ then _ else _)); walk1))
       · dsimp only
         have h6 : 6 ≤ n := by omega
         rw [idx_cast _ _ h6]
         refine b64_item (Nat.mod_lt _ (by decide)) ?_
         intro t9 k9
         repeat' (first | (k_unfold; (try dsimp only)) | ((with_reducible show wpAny _ _ (execs (_ :: _) _) _ _ _); refine execs_hide ?_; intro Qk9 kH9; (try dsimp only)) | ((with_reducible rename Hid _ _ _ => kH9); first | (refine hid_next kH9 ?_; clear kH9; (try clear Qk9)) | (refine hid_other kH9 (by nofun) ?_; clear kH9; (try clear Qk9)); (try dsimp only)) | ((with_reducible show wpAny _ _ (call _ [Value.bytes _ _]) _ _ _); k_dflt (refine call_type_of (Tx := "bytes") rfl (by decide +kernel) ?_)) | ((with_reducible show wpAny _ _ (binaryOp Operator.Add (Value.str _ _) (Value.str _ _)) _ _ _); k_dflt (refine SB.add ?_ (add_fits (by walk_at "m_len") (by walk_at "m_len") (by decide +kernel)); intro _ _; (try dsimp only))) | ((with_reducible show wpAny _ _ (call (Value.builtin "len") [Value.str _ _]) _ _ _); k_dflt (refine len_str_ok (Nat.le_trans (by walk_at "m_len") (by decide +kernel)) ?_; (try dsimp only))) | ((with_reducible show wpAny _ _ (call (Value.builtin "list.append") [Value.ref _, _]) _ _ _); k_dflt (refine append_K (by k_asm) (by k_asm) (by k_upd) ?_ (by refine size_ok ?_; (try simp only [List.size_toArray]); omega); k_whole); intro _ _ _; (try k_sweep)) | ((with_reducible show wpAny _ _ (storeName (compEnvC _ _ _ _) _ _) _ _ _); k_dflt (refine cc_store (by assumption) (by assumption) (by exact rfl) (by exact rfl) ?_); intro _ _ _; (try k_sweep)) | ((with_reducible show wpAny _ _ (eval (Expr.Name _ _) (compEnvC _ _ _ _)) _ _ _); k_dflt (refine cc_load (by assumption) (by exact rfl) ?_ (by exact rfl) (by exact rfl) (by exact rfl))) | ((with_reducible show wpAny _ _ _ _ _ _); (fail_if_success (with_reducible first | show wpAny _ _ (exec (Stmt.For _ _ _ _ _) _) _ _ _ | show wpAny _ _ (exec (Stmt.While _ _ _ _) _) _ _ _ | show wpAny _ _ (pyIter _) _ _ _ | show wpAny _ _ (call (Value.builtin "list.pop") _ _) _ _ _ | show wpAny _ _ (call (Value.builtin "str.join") _ _) _ _ _ | show wpAny _ _ (call (Value.builtin "max") _ _) _ _ _ | show wpAny _ _ (setItem _ _ _) _ _ _ | show wpAny _ _ (call (Value.builtin "str.replace") _ _) _ _ _ | show wpAny _ _ (call (Value.builtin "str.split") _ _) _ _ _ | show wpAny _ _ (call (Value.ref _) _ _) _ _ _ | show wpAny _ _ (eval (Expr.ListComp _ _ _ _) _) _ _ _ | show wpAny _ _ (exec (Stmt.Assign _ (Expr.ListComp _ _ _ _) _) _) _ _ _)); first | walk1 | (dsimp only; walk1)) | ((with_reducible show Frag.In _ _ ∧ _); (refine ⟨by k_in, ?_⟩); (try dsimp only [List.nil_append, List.cons_append])) | ((with_reducible show (if _ then _ else _)); walk1))
         rename_i F' N'
         have e6 : (n : Int) - 6 = ((n - 6 : Nat) : Int) := by omega
         rw [e6] at F'
         rw [List.push_toArray] at N'
         refine ⟨n - 6, by omega, _, _, _, _, _, _, n - 6, out ++ [b64 (((en.chr * 256 + b.toNat) % 65536) >>> (n - 6) % 64)], _, rfl, F', by kst_all, N', ?_, ?_, by omega, ?_, rfl⟩
         · unfold asInts
           rw [List.map_append]
           exact IntsAre.append hoi2 (.cons _ _ .nil)
         · rw [← hem]
           conv => rhs; rw [emit, if_pos h6]
         · rw [List.length_append, List.length_singleton]; omega
       · have hst2 : encAll ((d.toList.map UInt8.toNat).take (i + 1)) = ⟨out, n, (en.chr * 256 + b.toNat) % 65536⟩ := by
           rw [hstep]
           unfold encStep
           rw [← hem, emit, if_neg (by omega)]
         (try dsimp only); rw [hst2]
         exact ⟨_, _, _, _, [(ao, W.listOf ovs2.toArray k2)], rfl, F₂, N₂, (by intro q hq; rw [List.mem_singleton.mp hq]; exact hoff1), _, _, _, _, by kst_all, rfl, hoi2, rfl⟩
     · refine ⟨_, _, _, _, _, _, _, _, _, rfl, F', by kst_all, N', hoi, rfl, ?_, ?_, rfl⟩ <;> omega
   · rintro h3 tk3 g m₃ news₃ htk3 F₃ N₃ ⟨tb, tc, ovs, k, hm3, rfl, hoi, rfl⟩
     have hfull : (d.toList.map UInt8.toNat).take d.size = d.toList.map UInt8.toNat := List.take_of_length_le (by rw [List.length_map]; exact Nat.le_of_eq Array.length_toList)
     rw [hfull] at hm3 hoi
     replace F₃ := fr_kst _ F₃ hm3
     simp only [kstB] at F₃
     change Fr s.heap s.heap.objs.size h3 _ at F₃
     change News s.heap s.heap.objs.size h3 _ at N₃
     have hen := encAll_ok (d.toList.map UInt8.toNat)
     have hdl : (d.toList.map UInt8.toNat).length ≤ 1000 := by rw [List.length_map]; have : d.toList.length = d.size := Array.length_toList; omega
     have hovl : ovs.length ≤ 14000 := by rw [hoi.length]; unfold asInts; rw [List.length_map]; omega
     generalize hE : encAll (d.toList.map UInt8.toNat) = en at *
     clear hm3 F N
     dsimp only
     (try k_fold)
     repeat' (first | (k_unfold; (try dsimp only)) | ((with_reducible show wpAny _ _ (execs (_ :: _) _) _ _ _); refine execs_hide ?_; intro Qk9 kH9; (try dsimp only)) | ((with_reducible rename Hid _ _ _ => kH9); first | (refine hid_next kH9 ?_; clear kH9; (try clear Qk9)) | (refine hid_other kH9 (by nofun) ?_; clear kH9; (try clear Qk9)); (try dsimp only)) | ((with_reducible show wpAny _ _ (call _ [Value.bytes _ _]) _ _ _); k_dflt (refine call_type_of (Tx := "bytes") rfl (by decide +kernel) ?_)) | ((with_reducible show wpAny _ _ (binaryOp Operator.Add (Value.str _ _) (Value.str _ _)) _ _ _); k_dflt (refine SB.add ?_ (add_fits (by walk_at "m_len") (by walk_at "m_len") (by decide +kernel)); intro _ _; (try dsimp only))) | ((with_reducible show wpAny _ _ (call (Value.builtin "len") [Value.str _ _]) _ _ _); k_dflt (refine len_str_ok (Nat.le_trans (by walk_at "m_len") (by decide +kernel)) ?_; (try dsimp only))) | ((with_reducible show wpAny _ _ (call (Value.builtin "list.append") [Value.ref _, _]) _ _ _); k_dflt (refine append_K (by k_asm) (by k_asm) (by k_upd) ?_ (by refine size_ok ?_; (try simp only [List.size_toArray]); omega); k_whole); intro _ _ _; (try k_sweep)) | ((with_reducible show wpAny _ _ (storeName (compEnvC _ _ _ _) _ _) _ _ _); k_dflt (refine cc_store (by assumption) (by assumption) (by exact rfl) (by exact rfl) ?_); intro _ _ _; (try k_sweep)) | ((with_reducible show wpAny _ _ (eval (Expr.Name _ _) (compEnvC _ _ _ _)) _ _ _); k_dflt (refine cc_load (by assumption) (by exact rfl) ?_ (by exact rfl) (by exact rfl) (by exact rfl))) | ((with_reducible show wpAny _ _ _ _ _ _); (fail_if_success (with_reducible first | show wpAny _ _ (exec (Stmt.For _ _ _ _ _) _) _ _ _ | show wpAny _ _ (exec (Stmt.While _ _ _ _) _) _ _ _ | show wpAny _ _ (pyIter _) _ _ _ | show wpAny _ _ (call (Value.builtin "list.pop") _ _) _ _ _ | show wpAny _ _ (call (Value.builtin "str.join") _ _) _ _ _ | show wpAny _ _ (call (Value.builtin "max") _ _) _ _ _ | show wpAny _ _ (setItem _ _ _) _ _ _ | show wpAny _ _ (call (Value.builtin "str.replace") _ _) _ _ _ | show wpAny _ _ (call (Value.builtin "str.split") _ _) _ _ _ | show wpAny _ _ (call (Value.ref _) _ _) _ _ _ | show wpAny _ _ (eval (Expr.ListComp _ _ _ _) _) _ _ _ | show wpAny _ _ (exec (Stmt.Assign _ (Expr.ListComp _ _ _ _) _) _) _ _ _)); first | walk1 | (dsimp only; walk1)) | ((with_reducible show Frag.In _ _ ∧ _); (refine ⟨by k_in, ?_⟩); (try dsimp only [List.nil_append, List.cons_append])) | ((with_reducible show (if _ then _ else _)); walk1))
     · dsimp only
       have e1 : Builtin.bitAnd (en.chr : Int) 3 = ((en.chr % 4 : Nat) : Int) := by rw [bitAnd_m2]; omega
       have hm4 : en.chr % 4 < 4 := Nat.mod_lt _ (by decide)
       rw [e1]
       repeat' (first | (k_unfold; (try dsimp only)) | ((with_reducible show wpAny _ _ (execs (_ :: _) _) _ _ _); refine execs_hide ?_; intro Qk9 kH9; (try dsimp only)) | ((with_reducible rename Hid _ _ _ => kH9); first | (refine hid_next kH9 ?_; clear kH9; (try clear Qk9)) | (refine hid_other kH9 (by nofun) ?_; clear kH9; (try clear Qk9)); (try dsimp only)) | ((with_reducible show wpAny _ _ (call _ [Value.bytes _ _]) _ _ _); k_dflt (refine call_type_of (Tx := "bytes") rfl (by decide +kernel) ?_)) | ((with_reducible show wpAny _ _ (binaryOp Operator.Add (Value.str _ _) (Value.str _ _)) _ _ _); k_dflt (refine SB.add ?_ (add_fits (by walk_at "m_len") (by walk_at "m_len") (by decide +kernel)); intro _ _; (try dsimp only))) | ((with_reducible show wpAny _ _ (call (Value.builtin "len") [Value.str _ _]) _ _ _); k_dflt (refine len_str_ok (Nat.le_trans (by walk_at "m_len") (by decide +kernel)) ?_; (try dsimp only))) | ((with_reducible show wpAny _ _ (call (Value.builtin "list.append") [Value.ref _, _]) _ _ _); k_dflt (refine append_K (by k_asm) (by k_asm) (by k_upd) ?_ (by refine size_ok ?_; (try simp only [List.size_toArray]); omega); k_whole); intro _ _ _; (try k_sweep)) | ((with_reducible show wpAny _ _ (storeName (compEnvC _ _ _ _) _ _) _ _ _); k_dflt (refine cc_store (by assumption) (by assumption) (by exact rfl) (by exact rfl) ?_); intro _ _ _; (try k_sweep)) | ((with_reducible show wpAny _ _ (eval (Expr.Name _ _) (compEnvC _ _ _ _)) _ _ _); k_dflt (refine cc_load (by assumption) (by exact rfl) ?_ (by exact rfl) (by exact rfl) (by exact rfl))) | ((with_reducible show wpAny _ _ _ _ _ _); (fail_if_success (with_reducible first | show wpAny _ _ (exec (Stmt.For _ _ _ _ _) _) _ _ _ | show wpAny _ _ (exec (Stmt.While _ _ _ _) _) _ _ _ | show wpAny _ _ (pyIter _) _ _ _ | show wpAny _ _ (call (Value.builtin "list.pop") _ _) _ _ _ | show wpAny _ _ (call (Value.builtin "str.join") _ _) _ _ _ | show wpAny _ _ (call (Value.builtin "max") _ _) _ _ _ | show wpAny _ _ (setItem _ _ _) _ _ _ | show wpAny _ _ (call (Value.builtin "str.replace") _ _) _ _ _ | show wpAny _ _ (call (Value.builtin "str.split") _ _) _ _ _ | show wpAny _ _ (call (Value.ref _) _ _) _ _ _ | show wpAny _ _ (eval (Expr.ListComp _ _ _ _) _) _ _ _ | show wpAny _ _ (exec (Stmt.Assign _ (Expr.ListComp _ _ _ _) _) _) _ _ _)); first | walk1 | (dsimp only; walk1)) | ((with_reducible show Frag.In _ _ ∧ _); (refine ⟨by k_in, ?_⟩); (try dsimp only [List.nil_append, List.cons_append])) | ((with_reducible show (if _ then _ else _)); walk1))
       dsimp only
       have e2 : ((en.chr % 4 : Nat) : Int) * 2 ^ Int.toNat 4 = ((en.chr % 4 * 16 : Nat) : Int) := by
         have : (2 : Int) ^ Int.toNat 4 = 16 := by decide
         rw [this]; omega
       rw [e2]
       refine b64_item (by omega) ?_
       intro t9 k9
       repeat' (first | (k_unfold; (try dsimp only)) | ((with_reducible show wpAny _ _ (execs (_ :: _) _) _ _ _); refine execs_hide ?_; intro Qk9 kH9; (try dsimp only)) | ((with_reducible rename Hid _ _ _ => kH9); first | (refine hid_next kH9 ?_; clear kH9; (try clear Qk9)) | (refine hid_other kH9 (by nofun) ?_; clear kH9; (try clear Qk9)); (try dsimp only)) | ((with_reducible show wpAny _ _ (call _ [Value.bytes _ _]) _ _ _); k_dflt (refine call_type_of (Tx := "bytes") rfl (by decide +kernel) ?_)) | ((with_reducible show wpAny _ _ (binaryOp Operator.Add (Value.str _ _) (Value.str _ _)) _ _ _); k_dflt (refine SB.add ?_ (add_fits (by walk_at "m_len") (by walk_at "m_len") (by decide +kernel)); intro _ _; (try dsimp only))) | ((with_reducible show wpAny _ _ (call (Value.builtin "len") [Value.str _ _]) _ _ _); k_dflt (refine len_str_ok (Nat.le_trans (by walk_at "m_len") (by decide +kernel)) ?_; (try dsimp only))) | ((with_reducible show wpAny _ _ (call (Value.builtin "list.append") [Value.ref _, _]) _ _ _); k_dflt (refine append_K (by k_asm) (by k_asm) (by k_upd) ?_ (by refine size_ok ?_; (try simp only [List.size_toArray]); omega); k_whole); intro _ _ _; (try k_sweep)) | ((with_reducible show wpAny _ _ (storeName (compEnvC _ _ _ _) _ _) _ _ _); k_dflt (refine cc_store (by assumption) (by assumption) (by exact rfl) (by exact rfl) ?_); intro _ _ _; (try k_sweep)) | ((with_reducible show wpAny _ _ (eval (Expr.Name _ _) (compEnvC _ _ _ _)) _ _ _); k_dflt (refine cc_load (by assumption) (by exact rfl) ?_ (by exact rfl) (by exact rfl) (by exact rfl))) | ((with_reducible show wpAny _ _ _ _ _ _); (fail_if_success (with_reducible first | show wpAny _ _ (exec (Stmt.For _ _ _ _ _) _) _ _ _ | show wpAny _ _ (exec (Stmt.While _ _ _ _) _) _ _ _ | show wpAny _ _ (pyIter _) _ _ _ | show wpAny _ _ (call (Value.builtin "list.pop") _ _) _ _ _ | show wpAny _ _ (call (Value.builtin "str.join") _ _) _ _ _ | show wpAny _ _ (call (Value.builtin "max") _ _) _ _ _ | show wpAny _ _ (setItem _ _ _) _ _ _ | show wpAny _ _ (call (Value.builtin "str.replace") _ _) _ _ _ | show wpAny _ _ (call (Value.builtin "str.split") _ _) _ _ _ | show wpAny _ _ (call (Value.ref _) _ _) _ _ _ | show wpAny _ _ (eval (Expr.ListComp _ _ _ _) _) _ _ _ | show wpAny _ _ (exec (Stmt.Assign _ (Expr.ListComp _ _ _ _) _) _) _ _ _)); first | walk1 | (dsimp only; walk1)) | ((with_reducible show Frag.In _ _ ∧ _); (refine ⟨by k_in, ?_⟩); (try dsimp only [List.nil_append, List.cons_append])) | ((with_reducible show (if _ then _ else _)); walk1))
       rename_i F' N'
       rw [List.push_toArray, List.push_toArray, List.push_toArray] at N'
       refine bytes_end (ns := en.out ++ [b64 (en.chr % 4 * 16)] ++ [61] ++ [61]) F' N' (.head _) (ints_snoc (ints_snoc (ints_snoc hoi))) (fun n hn => ?_) ?_ hh ?_
       · simp only [List.append_assoc, List.mem_append, List.mem_singleton] at hn
         rcases hn with hn | rfl | rfl | rfl
         · exact encAll_lt _ n (hE ▸ hn)
         · exact b64_lt _
         · decide
         · decide
       · simp only [List.length_append, List.length_singleton]; omega
       intro h5 t5 k5 F5 N5
       have e9 : en.out ++ [b64 (en.chr % 4 * 16)] ++ [61] ++ [61] = encode (d.toList.map UInt8.toNat) := by
         unfold encode encEnd
         rw [hE, if_pos (by omega)]
         simp
       rw [e9]
       repeat' (first | (k_unfold; (try dsimp only)) | ((with_reducible show wpAny _ _ (execs (_ :: _) _) _ _ _); refine execs_hide ?_; intro Qk9 kH9; (try dsimp only)) | ((with_reducible rename Hid _ _ _ => kH9); first | (refine hid_next kH9 ?_; clear kH9; (try clear Qk9)) | (refine hid_other kH9 (by nofun) ?_; clear kH9; (try clear Qk9)); (try dsimp only)) | ((with_reducible show wpAny _ _ (call _ [Value.bytes _ _]) _ _ _); k_dflt (refine call_type_of (Tx := "bytes") rfl (by decide +kernel) ?_)) | ((with_reducible show wpAny _ _ (binaryOp Operator.Add (Value.str _ _) (Value.str _ _)) _ _ _); k_dflt (refine SB.add ?_ (add_fits (by walk_at "m_len") (by walk_at "m_len") (by decide +kernel)); intro _ _; (try dsimp only))) | ((with_reducible show wpAny _ _ (call (Value.builtin "len") [Value.str _ _]) _ _ _); k_dflt (refine len_str_ok (Nat.le_trans (by walk_at "m_len") (by decide +kernel)) ?_; (try dsimp only))) | ((with_reducible show wpAny _ _ (call (Value.builtin "list.append") [Value.ref _, _]) _ _ _); k_dflt (refine append_K (by k_asm) (by k_asm) (by k_upd) ?_ (by refine size_ok ?_; (try simp only [List.size_toArray]); omega); k_whole); intro _ _ _; (try k_sweep)) | ((with_reducible show wpAny _ _ (storeName (compEnvC _ _ _ _) _ _) _ _ _); k_dflt (refine cc_store (by assumption) (by assumption) (by exact rfl) (by exact rfl) ?_); intro _ _ _; (try k_sweep)) | ((with_reducible show wpAny _ _ (eval (Expr.Name _ _) (compEnvC _ _ _ _)) _ _ _); k_dflt (refine cc_load (by assumption) (by exact rfl) ?_ (by exact rfl) (by exact rfl) (by exact rfl))) | ((with_reducible show wpAny _ _ _ _ _ _); (fail_if_success (with_reducible first | show wpAny _ _ (exec (Stmt.For _ _ _ _ _) _) _ _ _ | show wpAny _ _ (exec (Stmt.While _ _ _ _) _) _ _ _ | show wpAny _ _ (pyIter _) _ _ _ | show wpAny _ _ (call (Value.builtin "list.pop") _ _) _ _ _ | show wpAny _ _ (call (Value.builtin "str.join") _ _) _ _ _ | show wpAny _ _ (call (Value.builtin "max") _ _) _ _ _ | show wpAny _ _ (setItem _ _ _) _ _ _ | show wpAny _ _ (call (Value.builtin "str.replace") _ _) _ _ _ | show wpAny _ _ (call (Value.builtin "str.split") _ _) _ _ _ | show wpAny _ _ (call (Value.ref _) _ _) _ _ _ | show wpAny _ _ (eval (Expr.ListComp _ _ _ _) _) _ _ _ | show wpAny _ _ (exec (Stmt.Assign _ (Expr.ListComp _ _ _ _) _) _) _ _ _)); first | walk1 | (dsimp only; walk1)) | ((with_reducible show Frag.In _ _ ∧ _); (refine ⟨by k_in, ?_⟩); (try dsimp only [List.nil_append, List.cons_append])) | ((with_reducible show (if _ then _ else _)); walk1))
       exact hR _ _ _ F5.keep
     · dsimp only
       have e1 : Builtin.bitAnd (en.chr : Int) 15 = ((en.chr % 16 : Nat) : Int) := by rw [bitAnd_m4]; omega
       have hm4 : en.chr % 16 < 16 := Nat.mod_lt _ (by decide)
       rw [e1]
       repeat' (first | (k_unfold; (try dsimp only)) | ((with_reducible show wpAny _ _ (execs (_ :: _) _) _ _ _); refine execs_hide ?_; intro Qk9 kH9; (try dsimp only)) | ((with_reducible rename Hid _ _ _ => kH9); first | (refine hid_next kH9 ?_; clear kH9; (try clear Qk9)) | (refine hid_other kH9 (by nofun) ?_; clear kH9; (try clear Qk9)); (try dsimp only)) | ((with_reducible show wpAny _ _ (call _ [Value.bytes _ _]) _ _ _); k_dflt (refine call_type_of (Tx := "bytes") rfl (by decide +kernel) ?_)) | ((with_reducible show wpAny _ _ (binaryOp Operator.Add (Value.str _ _) (Value.str _ _)) _ _ _); k_dflt (refine SB.add ?_ (add_fits (by walk_at "m_len") (by walk_at "m_len") (by decide +kernel)); intro _ _; (try dsimp only))) | ((with_reducible show wpAny _ _ (call (Value.builtin "len") [Value.str _ _]) _ _ _); k_dflt (refine len_str_ok (Nat.le_trans (by walk_at "m_len") (by decide +kernel)) ?_; (try dsimp only))) | ((with_reducible show wpAny _ _ (call (Value.builtin "list.append") [Value.ref _, _]) _ _ _); k_dflt (refine append_K (by k_asm) (by k_asm) (by k_upd) ?_ (by refine size_ok ?_; (try simp only [List.size_toArray]); omega); k_whole); intro _ _ _; (try k_sweep)) | ((with_reducible show wpAny _ _ (storeName (compEnvC _ _ _ _) _ _) _ _ _); k_dflt (refine cc_store (by assumption) (by assumption) (by exact rfl) (by exact rfl) ?_); intro _ _ _; (try k_sweep)) | ((with_reducible show wpAny _ _ (eval (Expr.Name _ _) (compEnvC _ _ _ _)) _ _ _); k_dflt (refine cc_load (by assumption) (by exact rfl) ?_ (by exact rfl) (by exact rfl) (by exact rfl))) | ((with_reducible show wpAny _ _ _ _ _ _); (fail_if_success (with_reducible first | show wpAny _ _ (exec (Stmt.For _ _ _ _ _) _) _ _ _ | show wpAny _ _ (exec (Stmt.While _ _ _ _) _) _ _ _ | show wpAny _ _ (pyIter _) _ _ _ | show wpAny _ _ (call (Value.builtin "list.pop") _ _) _ _ _ | show wpAny _ _ (call (Value.builtin "str.join") _ _) _ _ _ | show wpAny _ _ (call (Value.builtin "max") _ _) _ _ _ | show wpAny _ _ (setItem _ _ _) _ _ _ | show wpAny _ _ (call (Value.builtin "str.replace") _ _) _ _ _ | show wpAny _ _ (call (Value.builtin "str.split") _ _) _ _ _ | show wpAny _ _ (call (Value.ref _) _ _) _ _ _ | show wpAny _ _ (eval (Expr.ListComp _ _ _ _) _) _ _ _ | show wpAny _ _ (exec (Stmt.Assign _ (Expr.ListComp _ _ _ _) _) _) _ _ _)); first | walk1 | (dsimp only; walk1)) | ((with_reducible show Frag.In _ _ ∧ _); (refine ⟨by k_in, ?_⟩); (try dsimp only [List.nil_append, List.cons_append])) | ((with_reducible show (if _ then _ else _)); walk1))
       dsimp only
       have e2 : ((en.chr % 16 : Nat) : Int) * 2 ^ Int.toNat 2 = ((en.chr % 16 * 4 : Nat) : Int) := by
         have : (2 : Int) ^ Int.toNat 2 = 4 := by decide
         rw [this]; omega
       rw [e2]
       refine b64_item (by omega) ?_
       intro t9 k9
       repeat' (first | (k_unfold; (try dsimp only)) | ((with_reducible show wpAny _ _ (execs (_ :: _) _) _ _ _); refine execs_hide ?_; intro Qk9 kH9; (try dsimp only)) | ((with_reducible rename Hid _ _ _ => kH9); first | (refine hid_next kH9 ?_; clear kH9; (try clear Qk9)) | (refine hid_other kH9 (by nofun) ?_; clear kH9; (try clear Qk9)); (try dsimp only)) | ((with_reducible show wpAny _ _ (call _ [Value.bytes _ _]) _ _ _); k_dflt (refine call_type_of (Tx := "bytes") rfl (by decide +kernel) ?_)) | ((with_reducible show wpAny _ _ (binaryOp Operator.Add (Value.str _ _) (Value.str _ _)) _ _ _); k_dflt (refine SB.add ?_ (add_fits (by walk_at "m_len") (by walk_at "m_len") (by decide +kernel)); intro _ _; (try dsimp only))) | ((with_reducible show wpAny _ _ (call (Value.builtin "len") [Value.str _ _]) _ _ _); k_dflt (refine len_str_ok (Nat.le_trans (by walk_at "m_len") (by decide +kernel)) ?_; (try dsimp only))) | ((with_reducible show wpAny _ _ (call (Value.builtin "list.append") [Value.ref _, _]) _ _ _); k_dflt (refine append_K (by k_asm) (by k_asm) (by k_upd) ?_ (by refine size_ok ?_; (try simp only [List.size_toArray]); omega); k_whole); intro _ _ _; (try k_sweep)) | ((with_reducible show wpAny _ _ (storeName (compEnvC _ _ _ _) _ _) _ _ _); k_dflt (refine cc_store (by assumption) (by assumption) (by exact rfl) (by exact rfl) ?_); intro _ _ _; (try k_sweep)) | ((with_reducible show wpAny _ _ (eval (Expr.Name _ _) (compEnvC _ _ _ _)) _ _ _); k_dflt (refine cc_load (by assumption) (by exact rfl) ?_ (by exact rfl) (by exact rfl) (by exact rfl))) | ((with_reducible show wpAny _ _ _ _ _ _); (fail_if_success (with_reducible first | show wpAny _ _ (exec (Stmt.For _ _ _ _ _) _) _ _ _ | show wpAny _ _ (exec (Stmt.While _ _ _ _) _) _ _ _ | show wpAny _ _ (pyIter _) _ _ _ | show wpAny _ _ (call (Value.builtin "list.pop") _ _) _ _ _ | show wpAny _ _ (call (Value.builtin "str.join") _ _) _ _ _ | show wpAny _ _ (call (Value.builtin "max") _ _) _ _ _ | show wpAny _ _ (setItem _ _ _) _ _ _ | show wpAny _ _ (call (Value.builtin "str.replace") _ _) _ _ _ | show wpAny _ _ (call (Value.builtin "str.split") _ _) _ _ _ | show wpAny _ _ (call (Value.ref _) _ _) _ _ _ | show wpAny _ _ (eval (Expr.ListComp _ _ _ _) _) _ _ _ | show wpAny _ _ (exec (Stmt.Assign _ (Expr.ListComp _ _ _ _) _) _) _ _ _)); first | walk1 | (dsimp only; walk1)) | ((with_reducible show Frag.In _ _ ∧ _); (refine ⟨by k_in, ?_⟩); (try dsimp only [List.nil_append, List.cons_append])) | ((with_reducible show (if _ then _ else _)); walk1))
       rename_i F' N'
       rw [List.push_toArray, List.push_toArray] at N'
       refine bytes_end (ns := en.out ++ [b64 (en.chr % 16 * 4)] ++ [61]) F' N' (.head _) (ints_snoc (ints_snoc hoi)) (fun n hn => ?_) ?_ hh ?_
       · simp only [List.append_assoc, List.mem_append, List.mem_singleton] at hn
         rcases hn with hn | rfl | rfl
         · exact encAll_lt _ n (hE ▸ hn)
         · exact b64_lt _
         · decide
       · simp only [List.length_append, List.length_singleton]; omega
       intro h5 t5 k5 F5 N5
       have e9 : en.out ++ [b64 (en.chr % 16 * 4)] ++ [61] = encode (d.toList.map UInt8.toNat) := by
         unfold encode encEnd
         rw [hE, if_neg (by omega), if_pos (by omega)]
         simp
       rw [e9]
       repeat' (first | (k_unfold; (try dsimp only)) | ((with_reducible show wpAny _ _ (execs (_ :: _) _) _ _ _); refine execs_hide ?_; intro Qk9 kH9; (try dsimp only)) | ((with_reducible rename Hid _ _ _ => kH9); first | (refine hid_next kH9 ?_; clear kH9; (try clear Qk9)) | (refine hid_other kH9 (by nofun) ?_; clear kH9; (try clear Qk9)); (try dsimp only)) | ((with_reducible show wpAny _ _ (call _ [Value.bytes _ _]) _ _ _); k_dflt (refine call_type_of (Tx := "bytes") rfl (by decide +kernel) ?_)) | ((with_reducible show wpAny _ _ (binaryOp Operator.Add (Value.str _ _) (Value.str _ _)) _ _ _); k_dflt (refine SB.add ?_ (add_fits (by walk_at "m_len") (by walk_at "m_len") (by decide +kernel)); intro _ _; (try dsimp only))) | ((with_reducible show wpAny _ _ (call (Value.builtin "len") [Value.str _ _]) _ _ _); k_dflt (refine len_str_ok (Nat.le_trans (by walk_at "m_len") (by decide +kernel)) ?_; (try dsimp only))) | ((with_reducible show wpAny _ _ (call (Value.builtin "list.append") [Value.ref _, _]) _ _ _); k_dflt (refine append_K (by k_asm) (by k_asm) (by k_upd) ?_ (by refine size_ok ?_; (try simp only [List.size_toArray]); omega); k_whole); intro _ _ _; (try k_sweep)) | ((with_reducible show wpAny _ _ (storeName (compEnvC _ _ _ _) _ _) _ _ _); k_dflt (refine cc_store (by assumption) (by assumption) (by exact rfl) (by exact rfl) ?_); intro _ _ _; (try k_sweep)) | ((with_reducible show wpAny _ _ (eval (Expr.Name _ _) (compEnvC _ _ _ _)) _ _ _); k_dflt (refine cc_load (by assumption) (by exact rfl) ?_ (by exact rfl) (by exact rfl) (by exact rfl))) | ((with_reducible show wpAny _ _ _ _ _ _); (fail_if_success (with_reducible first | show wpAny _ _ (exec (Stmt.For _ _ _ _ _) _) _ _ _ | show wpAny _ _ (exec (Stmt.While _ _ _ _) _) _ _ _ | show wpAny _ _ (pyIter _) _ _ _ | show wpAny _ _ (call (Value.builtin "list.pop") _ _) _ _ _ | show wpAny _ _ (call (Value.builtin "str.join") _ _) _ _ _ | show wpAny _ _ (call (Value.builtin "max") _ _) _ _ _ | show wpAny _ _ (setItem _ _ _) _ _ _ | show wpAny _ _ (call (Value.builtin "str.replace") _ _) _ _ _ | show wpAny _ _ (call (Value.builtin "str.split") _ _) _ _ _ | show wpAny _ _ (call (Value.ref _) _ _) _ _ _ | show wpAny _ _ (eval (Expr.ListComp _ _ _ _) _) _ _ _ | show wpAny _ _ (exec (Stmt.Assign _ (Expr.ListComp _ _ _ _) _) _) _ _ _)); first | walk1 | (dsimp only; walk1)) | ((with_reducible show Frag.In _ _ ∧ _); (refine ⟨by k_in, ?_⟩); (try dsimp only [List.nil_append, List.cons_append])) | ((with_reducible show (if _ then _ else _)); walk1))
       exact hR _ _ _ F5.keep
     · refine bytes_end (ns := en.out) F₃ N₃ (.head _) hoi (fun n hn => encAll_lt _ n (hE ▸ hn)) (by omega) hh ?_
       intro h5 t5 k5 F5 N5
       have e9 : en.out = encode (d.toList.map UInt8.toNat) := by
         unfold encode encEnd
         rw [hE, if_neg (by omega), if_neg (by omega)]
       rw [e9]
       repeat' (first | (k_unfold; (try dsimp only)) | ((with_reducible show wpAny _ _ (execs (_ :: _) _) _ _ _); refine execs_hide ?_; intro Qk9 kH9; (try dsimp only)) | ((with_reducible rename Hid _ _ _ => kH9); first | (refine hid_next kH9 ?_; clear kH9; (try clear Qk9)) | (refine hid_other kH9 (by nofun) ?_; clear kH9; (try clear Qk9)); (try dsimp only)) | ((with_reducible show wpAny _ _ (call _ [Value.bytes _ _]) _ _ _); k_dflt (refine call_type_of (Tx := "bytes") rfl (by decide +kernel) ?_)) | ((with_reducible show wpAny _ _ (binaryOp Operator.Add (Value.str _ _) (Value.str _ _)) _ _ _); k_dflt (refine SB.add ?_ (add_fits (by walk_at "m_len") (by walk_at "m_len") (by decide +kernel)); intro _ _; (try dsimp only))) | ((with_reducible show wpAny _ _ (call (Value.builtin "len") [Value.str _ _]) _ _ _); k_dflt (refine len_str_ok (Nat.le_trans (by walk_at "m_len") (by decide +kernel)) ?_; (try dsimp only))) | ((with_reducible show wpAny _ _ (call (Value.builtin "list.append") [Value.ref _, _]) _ _ _); k_dflt (refine append_K (by k_asm) (by k_asm) (by k_upd) ?_ (by refine size_ok ?_; (try simp only [List.size_toArray]); omega); k_whole); intro _ _ _; (try k_sweep)) | ((with_reducible show wpAny _ _ (storeName (compEnvC _ _ _ _) _ _) _ _ _); k_dflt (refine cc_store (by assumption) (by assumption) (by exact rfl) (by exact rfl) ?_); intro _ _ _; (try k_sweep)) | ((with_reducible show wpAny _ _ (eval (Expr.Name _ _) (compEnvC _ _ _ _)) _ _ _); k_dflt (refine cc_load (by assumption) (by exact rfl) ?_ (by exact rfl) (by exact rfl) (by exact rfl))) | ((with_reducible show wpAny _ _ _ _ _ _); (fail_if_success (with_reducible first | show wpAny _ _ (exec (Stmt.For _ _ _ _ _) _) _ _ _ | show wpAny _ _ (exec (Stmt.While _ _ _ _) _) _ _ _ | show wpAny _ _ (pyIter _) _ _ _ | show wpAny _ _ (call (Value.builtin "list.pop") _ _) _ _ _ | show wpAny _ _ (call (Value.builtin "str.join") _ _) _ _ _ | show wpAny _ _ (call (Value.builtin "max") _ _) _ _ _ | show wpAny _ _ (setItem _ _ _) _ _ _ | show wpAny _ _ (call (Value.builtin "str.replace") _ _) _ _ _ | show wpAny _ _ (call (Value.builtin "str.split") _ _) _ _ _ | show wpAny _ _ (call (Value.ref _) _ _) _ _ _ | show wpAny _ _ (eval (Expr.ListComp _ _ _ _) _) _ _ _ | show wpAny _ _ (exec (Stmt.Assign _ (Expr.ListComp _ _ _ _) _) _) _ _ _)); first | walk1 | (dsimp only; walk1)) | ((with_reducible show Frag.In _ _ ∧ _); (refine ⟨by k_in, ?_⟩); (try dsimp only [List.nil_append, List.cons_append])) | ((with_reducible show (if _ then _ else _)); walk1))
       exact hR _ _ _ F5.keep)
end
end Part_b64

section Part_bm
section
open Builtin
theorem slot_btr : Slot "bytes" "translate" "bytes.translate" :=
  .of (owner := "bytes") (n := "translate") (by rw [typeLookup_type, builtinLookup_eq_fast]; kernel_rfl) (by decide +kernel) (by decide +kernel) (by decide +kernel)
    (by first | exact .inl (by decide +kernel) | exact .inr (by decide +kernel)) (by rw [isSubtype_type]; kernel_rfl)
theorem type_btr : typeOf (.builtin "bytes.translate") = pure (.type "method_descriptor") := by show builtinType _ = _; rw [builtinType_eq_fast]; kernel_rfl
theorem entry_btr : entryFor table "bytes.translate" = some Builtin.«bytes.translate» := entryFor_of_tree (by kernel_rfl)
theorem args_btr (a b : Value) : argsOk "bytes.translate" ⟨[a, b], []⟩ := by
  unfold argsOk; rw [signature?_of (id := "bytes.translate") (n := ['e', 't', 'a', 'l', 's', 'n', 'a', 'r', 't']) (o := ['s', 'e', 't', 'y', 'b']) (by kernel_rfl) FB.owner_bytes]; kernel_rfl
theorem getm_btr {M : Model} {A : Around} {E : Value → Shared → Prop} {s : Shared} {b : Array UInt8} {t : Tok} {pl : Sem Bool} {Q : Value × List Value → Shared → Prop} (h : Q (.builtin "bytes.translate", [.bytes b t]) s) : wpAny M A (getMethod (.bytes b t) "translate" pl) Q E s := by
  with_reducible exact KBd.method_of (.bytes b t) (typeIs_bytes _ _ _) slot_btr type_btr KBd.noRef h
def transl (d tb : Array UInt8) : Array UInt8 := d.map fun c => tb.getD c.toNat c
theorem meets_btr {d tb : Array UInt8} {td tt : Tok} (ht : tb.size = 256) :
    Meets («bytes.translate» ⟨[.bytes d td, .bytes tb tt], []⟩) (fun _ R s => d.size ≤ sizeLine ∧ ∀ t' k, R (.ok (.ret (.bytes (transl d tb) t'))) { s with toks := k }) := by
  refine .of_wp fun prog w A R s hS => ?_
  obtain ⟨hsz, h⟩ := hS
  unfold Builtin.«bytes.translate» Bytes.translateM
  dsimp only
  rw [if_neg (show ¬ ([Value.bytes tb tt].length + ([] : List (Str × Value)).length > 2) by simp)]
  rw [if_neg (by simp)]
  rw [if_neg (show ¬ ((Value.bytes tb tt == Value.none) = true) from Bool.false_ne_true)]
  refine wpAny_bind (wpAny_of_eq KBd.like_eq ?_)
  rw [if_neg (by rw [ht]; decide)]
  refine wpAny_bind (wpAny_pure ?_)
  dsimp only [List.head?_nil, Option.map_none, Option.orElse]
  refine wpAny_bind (wpAny_pure ?_)
  refine wpAny_bind (wpAny_of_eq (a := d) rfl ?_)
  have hf : (d.filter fun x => !(#[] : Array UInt8).contains x) = d := by
    rw [Array.filter_eq_self]; intro a _; simp
  (try dsimp only)
  rw [hf]
  show wpAny _ _ (if (transl d tb == d) = true then _ else _) _ _ s
  by_cases he : (transl d tb == d) = true
  · rw [if_pos he]
    refine wpAny_bind (wpAny_rule (wpAny_bind ?_))
    have hT : s.TypeIs (.bytes d td) "bytes" := typeIs_bytes s d td
    unfold Bytes.Kind.same
    rw [if_pos (by decide)]
    refine wpAny_bind (wpAny_typeOf hT ?_)
    rw [if_pos (by decide)]
    have hd : transl d tb = d := eq_of_beq he
    refine wpAny_pure (wpAny_pure ⟨_, rfl, ?_⟩)
    have := h td s.toks
    rw [hd] at this
    exact this
  · rw [if_neg he]
    refine wpAny_bind ?_
    show wpAny _ _ (mkBytes (transl d tb)) _ _ s
    exact wpAny_mkBytes (wpAny_pure ⟨_, rfl, h _ _⟩) (by unfold transl; rw [Array.size_map]; exact hsz)
theorem call_btr {prog : Program} {w : World} {A : Around} {E : Value → Shared → Prop} {s : Shared} {d tb : Array UInt8} {td tt : Tok} {Q : Value → Shared → Prop} (ht : tb.size = 256) (hz : d.size ≤ 16777216)
    (h : ∀ t' k, Q (.bytes (transl d tb) t') { s with toks := k }) : wpAny (model prog w) A (call (.builtin "bytes.translate") [.bytes d td, .bytes tb tt]) Q E s :=
  call_meets slot_btr (typeIs_bytes _ _ _) entry_btr (args_btr _ _) (meets_btr ht) ⟨by rw [sizeLine_eq]; exact hz, h⟩
theorem check_bmk (a b : Value) : checkBuiltinCall "bytes.maketrans" ⟨[a, b], []⟩ = pure () := by kernel_rfl
theorem plain_bmk : plainId "bytes.maketrans" = true := by decide +kernel
theorem entry_bmk : entryFor table "bytes.maketrans" = some Builtin.«bytes.maketrans» := entryFor_of_tree (by kernel_rfl)
/-- the table that turns 43 and 47 -/
def swap (a b : UInt8) : Array UInt8 := (((Array.range 256).map (·.toUInt8)).setIfInBounds 43 a).setIfInBounds 47 b
theorem swap_size (a b : UInt8) : (swap a b).size = 256 := by unfold swap; simp
theorem meets_bmk {a b : UInt8} {tf tt : Tok} :
    Meets («bytes.maketrans» ⟨[.bytes [43, 47].toArray tf, .bytes [a, b].toArray tt], []⟩) (fun _ R s => ∀ t' k, R (.ok (.ret (.bytes (swap a b) t'))) { s with toks := k }) := by
  refine .of_wp fun prog w A R s h => ?_
  show wpAny _ _ (Bytes.bytesLike _ (.bytes _ tf) >>= fun r => _) _ _ s
  refine wpAny_bind (wpAny_of_eq KBd.like_eq ?_)
  refine wpAny_bind (wpAny_of_eq KBd.like_eq ?_)
  rw [if_neg (by simp)]
  refine wpAny_bind ?_
  show wpAny _ _ (mkBytes (swap a b)) _ _ s
  exact wpAny_mkBytes (wpAny_pure ⟨_, rfl, h _ _⟩) (by rw [swap_size, sizeLine_eq]; decide)
theorem call_bmk {prog : Program} {w : World} {A : Around} {E : Value → Shared → Prop} {s : Shared} {a b : UInt8} {tf tt : Tok} {Q : Value → Shared → Prop}
    (h : ∀ t' k, Q (.bytes (swap a b) t') { s with toks := k }) : wpAny (model prog w) A (call (.builtin "bytes.maketrans") [.bytes [43, 47].toArray tf, .bytes [a, b].toArray tt]) Q E s :=
  wpAny_call (codeAny_call_builtin plain_bmk entry_bmk (wpAny_of_eq (check_bmk _ _) (meets_bmk prog w A (wants Q E) s h)))
theorem found_bmk (K : Frag) : findCls K (.type "bytes") (.type "type") (Str.ofString "maketrans") = some (.val (.builtin "bytes.maketrans")) := by kernel_rfl
theorem meta_bytes : typeOf (.type "bytes") = pure (.type "type") := by kernel_rfl
theorem stub_bytes : Manifest.isStub "bytes" = false := by decide +kernel
theorem handed_bmk : handedIn (.builtin "bytes.maketrans") = true := by kernel_rfl
theorem getm_bmk {prog : Program} {w : World} {A : Around} {E : Value → Shared → Prop} {s : Shared} {h₀ : Heap} {L : Addr} {m : Str → Option Value} {K : Frag} {pl : Sem Bool} {Q : Value × List Value → Shared → Prop} (F : Fr h₀ L s.heap m) (X₀ : K.In h₀)
    (h : Q (.builtin "bytes.maketrans", []) { s with toks := s.toks + 1 }) : wpAny (model prog w) A (getMethod (.type "bytes") (Str.ofString "maketrans") pl) Q E s := by
  with_reducible exact method_type (T := "bytes") (v := .builtin "bytes.maketrans") F X₀ meta_bytes stub_bytes (found_bmk K) handed_bmk h
theorem swap_url : swap 45 95 = #[0, 1, 2, 3, 4, 5, 6, 7, 8, 9, 10, 11, 12, 13, 14, 15, 16, 17, 18, 19, 20, 21, 22, 23, 24, 25, 26, 27, 28, 29, 30, 31, 32, 33, 34, 35, 36, 37, 38, 39, 40, 41, 42, 45, 44, 45, 46, 95, 48, 49, 50, 51, 52, 53, 54, 55, 56, 57, 58, 59, 60, 61, 62, 63, 64, 65, 66, 67, 68, 69, 70, 71, 72, 73, 74, 75, 76, 77, 78, 79, 80, 81, 82, 83, 84, 85, 86, 87, 88, 89, 90, 91, 92, 93, 94, 95, 96, 97, 98, 99, 100, 101, 102, 103, 104, 105, 106, 107, 108, 109, 110, 111, 112, 113, 114, 115, 116, 117, 118, 119, 120, 121, 122, 123, 124, 125, 126, 127, 128, 129, 130, 131, 132, 133, 134, 135, 136, 137, 138, 139, 140, 141, 142, 143, 144, 145, 146, 147, 148, 149, 150, 151, 152, 153, 154, 155, 156, 157, 158, 159, 160, 161, 162, 163, 164, 165, 166, 167, 168, 169, 170, 171, 172, 173, 174, 175, 176, 177, 178, 179, 180, 181, 182, 183, 184, 185, 186, 187, 188, 189, 190, 191, 192, 193, 194, 195, 196, 197, 198, 199, 200, 201, 202, 203, 204, 205, 206, 207, 208, 209, 210, 211, 212, 213, 214, 215, 216, 217, 218, 219, 220, 221, 222, 223, 224, 225, 226, 227, 228, 229, 230, 231, 232, 233, 234, 235, 236, 237, 238, 239, 240, 241, 242, 243, 244, 245, 246, 247, 248, 249, 250, 251, 252, 253, 254, 255] := by decide +kernel
/-- what is read through the table -/
theorem transl_swap (a b : Nat) (ha : a < 256) (hb : b < 256) : ∀ l : List Nat, (∀ c ∈ l, c < 128) →
    transl (l.map UInt8.ofNat).toArray (swap (UInt8.ofNat a) (UInt8.ofNat b)) = ((l.map fun c => if c = 47 then b else if c = 43 then a else c).map UInt8.ofNat).toArray := by
  intro l hl
  unfold transl
  rw [List.map_toArray, List.map_map, List.map_map]
  congr 1
  refine List.map_congr_left fun c hc => ?_
  have h1 := hl c hc
  have h2 : (UInt8.ofNat c).toNat = c := UInt8.toNat_ofNat_of_lt' (show c < 256 by omega)
  simp only [Function.comp]
  rw [h2]
  unfold swap
  rw [Array.getD_eq_getD_getElem?]
  rw [Array.getElem?_setIfInBounds, Array.getElem?_setIfInBounds]
  by_cases h47 : c = 47
  · subst h47; simp
  · rw [if_neg (fun e => h47 e.symm), if_neg h47]
    by_cases h43 : c = 43
    · subst h43; simp
    · rw [if_neg (fun e => h43 e.symm), if_neg h43]
      simp [show c < 256 by omega]
end
end Part_bm

section Part_enc
section
variable {w : World} {A : Around} {s : Shared} {R : Result → Shared → Prop} {p : Program} {loose : List Str} {mean : ExcName → Option Value} {mg mb : Str → Option Value}
theorem enc_size {d : Array UInt8} (hds : d.size ≤ 1000) : (((encode (d.toList.map UInt8.toNat)).map UInt8.ofNat).toArray).size ≤ 16777216 := by
  have h := (encAll_ok (d.toList.map UInt8.toNat)).2.2
  have hl : d.toList.length = d.size := Array.length_toList
  rw [List.length_map, hl] at h
  rw [List.size_toArray, List.length_map]
  unfold encode encEnd
  split
  · simp only [List.length_append, List.length_cons, List.length_nil]; omega
  · split
    · simp only [List.length_append, List.length_cons, List.length_nil]; omega
    · omega
set_option maxHeartbeats 8000000 in
theorem enc_call {d : Array UInt8} {td : Tok} (X : (hk.heap_1 w.params).In s.heap) (T : Top p loose mean mg mb s.heap) (hA : A.depth < 490) (hh : A.handled = none) (hds : d.size ≤ 1000)
  (hR : ∀ h' tk t, Stays s.heap h' → R (.ok (.ret (.bytes ((encode (d.toList.map UInt8.toNat)).map UInt8.ofNat).toArray t))) { s with heap := h', toks := tk }) :
  codeAny (model lw.row.prog w) A (.call (.ref 58) ⟨[.bytes d td], []⟩) R s := by
  revert X
  k_fill
  intro X
  w_strict (
   w_top off
   refine' callOwn (binds := [(Str.ofString "s", .bytes d td), (Str.ofString "altchars", .none)]) ?k1 ?k2 ?k3 ?k4 ?k5 ?k6 ?k7 ?_ ?c1 ?c2 ?c3 ?c4
   (case k1 => exact X)
   (case k2 => exact T.nolimit)
   (case k3 => k_is)
   (case k4 => k_is)
   (case k5 => show A.depth < 1000; omega)
   (case k6 => exact binds_K X rfl (by k_is) rfl rfl rfl)
   (case k7 => exact locs rfl)
   (case c1 => exact rfl)
   (case c2 => exact rfl)
   (case c3 => exact rfl)
   (case c4 => decide)
   intro h₁ F
   have N : News s.heap s.heap.objs.size h₁ [] := News.nil
   (try dsimp only); (try k_fold)
   repeat' (first | (k_unfold; (try dsimp only)) | ((with_reducible show wpAny _ _ (execs (_ :: _) _) _ _ _); refine execs_hide ?_; intro Qk9 kH9; (try dsimp only)) | ((with_reducible rename Hid _ _ _ => kH9); first | (refine hid_next kH9 ?_; clear kH9; (try clear Qk9)) | (refine hid_other kH9 (by nofun) ?_; clear kH9; (try clear Qk9)); (try dsimp only)) | ((with_reducible show wpAny _ _ (getMethod (Value.bytes _ _) _ _) _ _ _); (with_reducible refine getm_btr ?_)) | ((with_reducible show wpAny _ _ (getMethod (Value.type "bytes") _ _) _ _ _); refine getm_bmk (by k_asm) (by k_asm) ?_) | ((with_reducible show wpAny _ _ (call (Value.builtin "bytes.maketrans") _) _ _ _); k_dflt (refine' call_bmk ?_; intro _ _)) | ((with_reducible show wpAny _ _ (call (Value.builtin "bytes.translate") _) _ _ _); k_dflt (refine call_btr (by first | exact rfl | exact swap_size _ _) (by assumption) ?_; intro _ _)) | ((with_reducible show wpAny _ _ (binaryOp Operator.Add (Value.str _ _) (Value.str _ _)) _ _ _); k_dflt (refine SB.add ?_ (add_fits (by walk_at "m_len") (by walk_at "m_len") (by decide +kernel)); intro _ _; (try dsimp only))) | ((with_reducible show wpAny _ _ (call (Value.builtin "len") [Value.str _ _]) _ _ _); k_dflt (refine len_str_ok (Nat.le_trans (by walk_at "m_len") (by decide +kernel)) ?_; (try dsimp only))) | ((with_reducible show wpAny _ _ (call (Value.builtin "list.append") [Value.ref _, _]) _ _ _); k_dflt (refine append_K (by k_asm) (by k_asm) (by k_upd) ?_ (by refine size_ok ?_; (try simp only [List.size_toArray]); omega); k_whole); intro _ _ _; (try k_sweep)) | ((with_reducible show wpAny _ _ (storeName (compEnvC _ _ _ _) _ _) _ _ _); k_dflt (refine cc_store (by assumption) (by assumption) (by exact rfl) (by exact rfl) ?_); intro _ _ _; (try k_sweep)) | ((with_reducible show wpAny _ _ (eval (Expr.Name _ _) (compEnvC _ _ _ _)) _ _ _); k_dflt (refine cc_load (by assumption) (by exact rfl) ?_ (by exact rfl) (by exact rfl) (by exact rfl))) | ((with_reducible show wpAny _ _ _ _ _ _); (fail_if_success (with_reducible first | show wpAny _ _ (exec (Stmt.For _ _ _ _ _) _) _ _ _ | show wpAny _ _ (exec (Stmt.While _ _ _ _) _) _ _ _ | show wpAny _ _ (pyIter _) _ _ _ | show wpAny _ _ (call (Value.builtin "list.pop") _ _) _ _ _ | show wpAny _ _ (call (Value.builtin "str.join") _ _) _ _ _ | show wpAny _ _ (call (Value.builtin "max") _ _) _ _ _ | show wpAny _ _ (setItem _ _ _) _ _ _ | show wpAny _ _ (call (Value.builtin "str.replace") _ _) _ _ _ | show wpAny _ _ (call (Value.builtin "str.split") _ _) _ _ _ | show wpAny _ _ (call (Value.ref _) _ _) _ _ _ | show wpAny _ _ (eval (Expr.ListComp _ _ _ _) _) _ _ _ | show wpAny _ _ (exec (Stmt.Assign _ (Expr.ListComp _ _ _ _) _) _) _ _ _)); first | walk1 | (dsimp only; walk1)) | ((with_reducible show Frag.In _ _ ∧ _); (refine ⟨by k_in, ?_⟩); (try dsimp only [List.nil_append, List.cons_append])) | ((with_reducible show (if _ then _ else _)); walk1))
   refine' wpAny_call (b2a_call ?x ?t ?a ?hh ?ds ?_)
   case x => exact X.keeps F.keep
   case t => exact T.keeps F.keep
   case a => show A.depth + 1 < 500; omega
   case hh => exact hh
   case ds => exact hds
   intro h₂ tk₂ t₂ st₂
   replace F := fr_stays F st₂
   replace N := news_stays N st₂
   dsimp only
   repeat' (first | (k_unfold; (try dsimp only)) | ((with_reducible show wpAny _ _ (execs (_ :: _) _) _ _ _); refine execs_hide ?_; intro Qk9 kH9; (try dsimp only)) | ((with_reducible rename Hid _ _ _ => kH9); first | (refine hid_next kH9 ?_; clear kH9; (try clear Qk9)) | (refine hid_other kH9 (by nofun) ?_; clear kH9; (try clear Qk9)); (try dsimp only)) | ((with_reducible show wpAny _ _ (getMethod (Value.bytes _ _) _ _) _ _ _); (with_reducible refine getm_btr ?_)) | ((with_reducible show wpAny _ _ (getMethod (Value.type "bytes") _ _) _ _ _); refine getm_bmk (by k_asm) (by k_asm) ?_) | ((with_reducible show wpAny _ _ (call (Value.builtin "bytes.maketrans") _) _ _ _); k_dflt (refine' call_bmk ?_; intro _ _)) | ((with_reducible show wpAny _ _ (call (Value.builtin "bytes.translate") _) _ _ _); k_dflt (refine call_btr (by first | exact rfl | exact swap_size _ _) (by assumption) ?_; intro _ _)) | ((with_reducible show wpAny _ _ (binaryOp Operator.Add (Value.str _ _) (Value.str _ _)) _ _ _); k_dflt (refine SB.add ?_ (add_fits (by walk_at "m_len") (by walk_at "m_len") (by decide +kernel)); intro _ _; (try dsimp only))) | ((with_reducible show wpAny _ _ (call (Value.builtin "len") [Value.str _ _]) _ _ _); k_dflt (refine len_str_ok (Nat.le_trans (by walk_at "m_len") (by decide +kernel)) ?_; (try dsimp only))) | ((with_reducible show wpAny _ _ (call (Value.builtin "list.append") [Value.ref _, _]) _ _ _); k_dflt (refine append_K (by k_asm) (by k_asm) (by k_upd) ?_ (by refine size_ok ?_; (try simp only [List.size_toArray]); omega); k_whole); intro _ _ _; (try k_sweep)) | ((with_reducible show wpAny _ _ (storeName (compEnvC _ _ _ _) _ _) _ _ _); k_dflt (refine cc_store (by assumption) (by assumption) (by exact rfl) (by exact rfl) ?_); intro _ _ _; (try k_sweep)) | ((with_reducible show wpAny _ _ (eval (Expr.Name _ _) (compEnvC _ _ _ _)) _ _ _); k_dflt (refine cc_load (by assumption) (by exact rfl) ?_ (by exact rfl) (by exact rfl) (by exact rfl))) | ((with_reducible show wpAny _ _ _ _ _ _); (fail_if_success (with_reducible first | show wpAny _ _ (exec (Stmt.For _ _ _ _ _) _) _ _ _ | show wpAny _ _ (exec (Stmt.While _ _ _ _) _) _ _ _ | show wpAny _ _ (pyIter _) _ _ _ | show wpAny _ _ (call (Value.builtin "list.pop") _ _) _ _ _ | show wpAny _ _ (call (Value.builtin "str.join") _ _) _ _ _ | show wpAny _ _ (call (Value.builtin "max") _ _) _ _ _ | show wpAny _ _ (setItem _ _ _) _ _ _ | show wpAny _ _ (call (Value.builtin "str.replace") _ _) _ _ _ | show wpAny _ _ (call (Value.builtin "str.split") _ _) _ _ _ | show wpAny _ _ (call (Value.ref _) _ _) _ _ _ | show wpAny _ _ (eval (Expr.ListComp _ _ _ _) _) _ _ _ | show wpAny _ _ (exec (Stmt.Assign _ (Expr.ListComp _ _ _ _) _) _) _ _ _)); first | walk1 | (dsimp only; walk1)) | ((with_reducible show Frag.In _ _ ∧ _); (refine ⟨by k_in, ?_⟩); (try dsimp only [List.nil_append, List.cons_append])) | ((with_reducible show (if _ then _ else _)); walk1))
   exact hR _ _ _ (Fr.keep (by assumption)))
set_option maxHeartbeats 8000000 in
theorem enc_alt_call {d : Array UInt8} {a b : UInt8} {td te : Tok} (X : (hk.heap_1 w.params).In s.heap) (T : Top p loose mean mg mb s.heap) (hA : A.depth < 490) (hh : A.handled = none) (hds : d.size ≤ 1000)
  (hR : ∀ h' tk t, Stays s.heap h' → R (.ok (.ret (.bytes (transl ((encode (d.toList.map UInt8.toNat)).map UInt8.ofNat).toArray (swap a b)) t))) { s with heap := h', toks := tk }) :
  codeAny (model lw.row.prog w) A (.call (.ref 58) ⟨[.bytes d td, .bytes [a, b].toArray te], []⟩) R s := by
  revert X
  k_fill
  intro X
  w_strict (
   w_top off
   refine' callOwn (binds := [(Str.ofString "s", .bytes d td), (Str.ofString "altchars", .bytes [a, b].toArray te)]) ?k1 ?k2 ?k3 ?k4 ?k5 ?k6 ?k7 ?_ ?c1 ?c2 ?c3 ?c4
   (case k1 => exact X)
   (case k2 => exact T.nolimit)
   (case k3 => k_is)
   (case k4 => k_is)
   (case k5 => show A.depth < 1000; omega)
   (case k6 => exact binds_K X rfl (by k_is) rfl rfl rfl)
   (case k7 => exact locs rfl)
   (case c1 => exact rfl)
   (case c2 => exact rfl)
   (case c3 => exact rfl)
   (case c4 => decide)
   intro h₁ F
   have N : News s.heap s.heap.objs.size h₁ [] := News.nil
   have hsz := enc_size hds
   (try dsimp only); (try k_fold)
   repeat' (first | (k_unfold; (try dsimp only)) | ((with_reducible show wpAny _ _ (execs (_ :: _) _) _ _ _); refine execs_hide ?_; intro Qk9 kH9; (try dsimp only)) | ((with_reducible rename Hid _ _ _ => kH9); first | (refine hid_next kH9 ?_; clear kH9; (try clear Qk9)) | (refine hid_other kH9 (by nofun) ?_; clear kH9; (try clear Qk9)); (try dsimp only)) | ((with_reducible show wpAny _ _ (getMethod (Value.bytes _ _) _ _) _ _ _); (with_reducible refine getm_btr ?_)) | ((with_reducible show wpAny _ _ (getMethod (Value.type "bytes") _ _) _ _ _); refine getm_bmk (by k_asm) (by k_asm) ?_) | ((with_reducible show wpAny _ _ (call (Value.builtin "bytes.maketrans") _) _ _ _); k_dflt (refine' call_bmk ?_; intro _ _)) | ((with_reducible show wpAny _ _ (call (Value.builtin "bytes.translate") _) _ _ _); k_dflt (refine call_btr (by first | exact rfl | exact swap_size _ _) (by assumption) ?_; intro _ _)) | ((with_reducible show wpAny _ _ (binaryOp Operator.Add (Value.str _ _) (Value.str _ _)) _ _ _); k_dflt (refine SB.add ?_ (add_fits (by walk_at "m_len") (by walk_at "m_len") (by decide +kernel)); intro _ _; (try dsimp only))) | ((with_reducible show wpAny _ _ (call (Value.builtin "len") [Value.str _ _]) _ _ _); k_dflt (refine len_str_ok (Nat.le_trans (by walk_at "m_len") (by decide +kernel)) ?_; (try dsimp only))) | ((with_reducible show wpAny _ _ (call (Value.builtin "list.append") [Value.ref _, _]) _ _ _); k_dflt (refine append_K (by k_asm) (by k_asm) (by k_upd) ?_ (by refine size_ok ?_; (try simp only [List.size_toArray]); omega); k_whole); intro _ _ _; (try k_sweep)) | ((with_reducible show wpAny _ _ (storeName (compEnvC _ _ _ _) _ _) _ _ _); k_dflt (refine cc_store (by assumption) (by assumption) (by exact rfl) (by exact rfl) ?_); intro _ _ _; (try k_sweep)) | ((with_reducible show wpAny _ _ (eval (Expr.Name _ _) (compEnvC _ _ _ _)) _ _ _); k_dflt (refine cc_load (by assumption) (by exact rfl) ?_ (by exact rfl) (by exact rfl) (by exact rfl))) | ((with_reducible show wpAny _ _ _ _ _ _); (fail_if_success (with_reducible first | show wpAny _ _ (exec (Stmt.For _ _ _ _ _) _) _ _ _ | show wpAny _ _ (exec (Stmt.While _ _ _ _) _) _ _ _ | show wpAny _ _ (pyIter _) _ _ _ | show wpAny _ _ (call (Value.builtin "list.pop") _ _) _ _ _ | show wpAny _ _ (call (Value.builtin "str.join") _ _) _ _ _ | show wpAny _ _ (call (Value.builtin "max") _ _) _ _ _ | show wpAny _ _ (setItem _ _ _) _ _ _ | show wpAny _ _ (call (Value.builtin "str.replace") _ _) _ _ _ | show wpAny _ _ (call (Value.builtin "str.split") _ _) _ _ _ | show wpAny _ _ (call (Value.ref _) _ _) _ _ _ | show wpAny _ _ (eval (Expr.ListComp _ _ _ _) _) _ _ _ | show wpAny _ _ (exec (Stmt.Assign _ (Expr.ListComp _ _ _ _) _) _) _ _ _)); first | walk1 | (dsimp only; walk1)) | ((with_reducible show Frag.In _ _ ∧ _); (refine ⟨by k_in, ?_⟩); (try dsimp only [List.nil_append, List.cons_append])) | ((with_reducible show (if _ then _ else _)); walk1))
   refine' wpAny_call (b2a_call ?x ?t ?a ?hh ?ds ?_)
   case x => exact X.keeps F.keep
   case t => exact T.keeps F.keep
   case a => show A.depth + 1 < 500; omega
   case hh => exact hh
   case ds => exact hds
   intro h₂ tk₂ t₂ st₂
   replace F := fr_stays F st₂
   replace N := news_stays N st₂
   dsimp only
   repeat' (first | (k_unfold; (try dsimp only)) | ((with_reducible show wpAny _ _ (execs (_ :: _) _) _ _ _); refine execs_hide ?_; intro Qk9 kH9; (try dsimp only)) | ((with_reducible rename Hid _ _ _ => kH9); first | (refine hid_next kH9 ?_; clear kH9; (try clear Qk9)) | (refine hid_other kH9 (by nofun) ?_; clear kH9; (try clear Qk9)); (try dsimp only)) | ((with_reducible show wpAny _ _ (getMethod (Value.bytes _ _) _ _) _ _ _); (with_reducible refine getm_btr ?_)) | ((with_reducible show wpAny _ _ (getMethod (Value.type "bytes") _ _) _ _ _); refine getm_bmk (by k_asm) (by k_asm) ?_) | ((with_reducible show wpAny _ _ (call (Value.builtin "bytes.maketrans") _) _ _ _); k_dflt (refine' call_bmk ?_; intro _ _)) | ((with_reducible show wpAny _ _ (call (Value.builtin "bytes.translate") _) _ _ _); k_dflt (refine call_btr (by first | exact rfl | exact swap_size _ _) (by assumption) ?_; intro _ _)) | ((with_reducible show wpAny _ _ (binaryOp Operator.Add (Value.str _ _) (Value.str _ _)) _ _ _); k_dflt (refine SB.add ?_ (add_fits (by walk_at "m_len") (by walk_at "m_len") (by decide +kernel)); intro _ _; (try dsimp only))) | ((with_reducible show wpAny _ _ (call (Value.builtin "len") [Value.str _ _]) _ _ _); k_dflt (refine len_str_ok (Nat.le_trans (by walk_at "m_len") (by decide +kernel)) ?_; (try dsimp only))) | ((with_reducible show wpAny _ _ (call (Value.builtin "list.append") [Value.ref _, _]) _ _ _); k_dflt (refine append_K (by k_asm) (by k_asm) (by k_upd) ?_ (by refine size_ok ?_; (try simp only [List.size_toArray]); omega); k_whole); intro _ _ _; (try k_sweep)) | ((with_reducible show wpAny _ _ (storeName (compEnvC _ _ _ _) _ _) _ _ _); k_dflt (refine cc_store (by assumption) (by assumption) (by exact rfl) (by exact rfl) ?_); intro _ _ _; (try k_sweep)) | ((with_reducible show wpAny _ _ (eval (Expr.Name _ _) (compEnvC _ _ _ _)) _ _ _); k_dflt (refine cc_load (by assumption) (by exact rfl) ?_ (by exact rfl) (by exact rfl) (by exact rfl))) | ((with_reducible show wpAny _ _ _ _ _ _); (fail_if_success (with_reducible first | show wpAny _ _ (exec (Stmt.For _ _ _ _ _) _) _ _ _ | show wpAny _ _ (exec (Stmt.While _ _ _ _) _) _ _ _ | show wpAny _ _ (pyIter _) _ _ _ | show wpAny _ _ (call (Value.builtin "list.pop") _ _) _ _ _ | show wpAny _ _ (call (Value.builtin "str.join") _ _) _ _ _ | show wpAny _ _ (call (Value.builtin "max") _ _) _ _ _ | show wpAny _ _ (setItem _ _ _) _ _ _ | show wpAny _ _ (call (Value.builtin "str.replace") _ _) _ _ _ | show wpAny _ _ (call (Value.builtin "str.split") _ _) _ _ _ | show wpAny _ _ (call (Value.ref _) _ _) _ _ _ | show wpAny _ _ (eval (Expr.ListComp _ _ _ _) _) _ _ _ | show wpAny _ _ (exec (Stmt.Assign _ (Expr.ListComp _ _ _ _) _) _) _ _ _)); first | walk1 | (dsimp only; walk1)) | ((with_reducible show Frag.In _ _ ∧ _); (refine ⟨by k_in, ?_⟩); (try dsimp only [List.nil_append, List.cons_append])) | ((with_reducible show (if _ then _ else _)); walk1))
   refine ⟨rfl, ?_⟩
   repeat' (first | (k_unfold; (try dsimp only)) | ((with_reducible show wpAny _ _ (execs (_ :: _) _) _ _ _); refine execs_hide ?_; intro Qk9 kH9; (try dsimp only)) | ((with_reducible rename Hid _ _ _ => kH9); first | (refine hid_next kH9 ?_; clear kH9; (try clear Qk9)) | (refine hid_other kH9 (by nofun) ?_; clear kH9; (try clear Qk9)); (try dsimp only)) | ((with_reducible show wpAny _ _ (getMethod (Value.bytes _ _) _ _) _ _ _); (with_reducible refine getm_btr ?_)) | ((with_reducible show wpAny _ _ (getMethod (Value.type "bytes") _ _) _ _ _); refine getm_bmk (by k_asm) (by k_asm) ?_) | ((with_reducible show wpAny _ _ (call (Value.builtin "bytes.maketrans") _) _ _ _); k_dflt (refine' call_bmk ?_; intro _ _)) | ((with_reducible show wpAny _ _ (call (Value.builtin "bytes.translate") _) _ _ _); k_dflt (refine call_btr (by first | exact rfl | exact swap_size _ _) (by assumption) ?_; intro _ _)) | ((with_reducible show wpAny _ _ (binaryOp Operator.Add (Value.str _ _) (Value.str _ _)) _ _ _); k_dflt (refine SB.add ?_ (add_fits (by walk_at "m_len") (by walk_at "m_len") (by decide +kernel)); intro _ _; (try dsimp only))) | ((with_reducible show wpAny _ _ (call (Value.builtin "len") [Value.str _ _]) _ _ _); k_dflt (refine len_str_ok (Nat.le_trans (by walk_at "m_len") (by decide +kernel)) ?_; (try dsimp only))) | ((with_reducible show wpAny _ _ (call (Value.builtin "list.append") [Value.ref _, _]) _ _ _); k_dflt (refine append_K (by k_asm) (by k_asm) (by k_upd) ?_ (by refine size_ok ?_; (try simp only [List.size_toArray]); omega); k_whole); intro _ _ _; (try k_sweep)) | ((with_reducible show wpAny _ _ (storeName (compEnvC _ _ _ _) _ _) _ _ _); k_dflt (refine cc_store (by assumption) (by assumption) (by exact rfl) (by exact rfl) ?_); intro _ _ _; (try k_sweep)) | ((with_reducible show wpAny _ _ (eval (Expr.Name _ _) (compEnvC _ _ _ _)) _ _ _); k_dflt (refine cc_load (by assumption) (by exact rfl) ?_ (by exact rfl) (by exact rfl) (by exact rfl))) | ((with_reducible show wpAny _ _ _ _ _ _); (fail_if_success (with_reducible first | show wpAny _ _ (exec (Stmt.For _ _ _ _ _) _) _ _ _ | show wpAny _ _ (exec (Stmt.While _ _ _ _) _) _ _ _ | show wpAny _ _ (pyIter _) _ _ _ | show wpAny _ _ (call (Value.builtin "list.pop") _ _) _ _ _ | show wpAny _ _ (call (Value.builtin "str.join") _ _) _ _ _ | show wpAny _ _ (call (Value.builtin "max") _ _) _ _ _ | show wpAny _ _ (setItem _ _ _) _ _ _ | show wpAny _ _ (call (Value.builtin "str.replace") _ _) _ _ _ | show wpAny _ _ (call (Value.builtin "str.split") _ _) _ _ _ | show wpAny _ _ (call (Value.ref _) _ _) _ _ _ | show wpAny _ _ (eval (Expr.ListComp _ _ _ _) _) _ _ _ | show wpAny _ _ (exec (Stmt.Assign _ (Expr.ListComp _ _ _ _) _) _) _ _ _)); first | walk1 | (dsimp only; walk1)) | ((with_reducible show Frag.In _ _ ∧ _); (refine ⟨by k_in, ?_⟩); (try dsimp only [List.nil_append, List.cons_append])) | ((with_reducible show (if _ then _ else _)); walk1))
   exact hR _ _ _ (Fr.keep (by assumption)))
set_option maxHeartbeats 8000000 in
theorem std_call {d : Array UInt8} {td : Tok} (X : (hk.heap_1 w.params).In s.heap) (T : Top p loose mean mg mb s.heap) (hA : A.depth < 480) (hh : A.handled = none) (hds : d.size ≤ 1000)
  (hR : ∀ h' tk t, Stays s.heap h' → R (.ok (.ret (.bytes ((encode (d.toList.map UInt8.toNat)).map UInt8.ofNat).toArray t))) { s with heap := h', toks := tk }) :
  codeAny (model lw.row.prog w) A (.call (.ref 65) ⟨[.bytes d td], []⟩) R s := by
  revert X
  k_fill
  intro X
  w_strict (
   w_top off
   refine' callOwn (binds := [(Str.ofString "s", .bytes d td)]) ?k1 ?k2 ?k3 ?k4 ?k5 ?k6 ?k7 ?_ ?c1 ?c2 ?c3 ?c4
   (case k1 => exact X)
   (case k2 => exact T.nolimit)
   (case k3 => k_is)
   (case k4 => k_is)
   (case k5 => show A.depth < 1000; omega)
   (case k6 => exact BindsTo.of_eq rfl)
   (case k7 => exact locs rfl)
   (case c1 => exact rfl)
   (case c2 => exact rfl)
   (case c3 => exact rfl)
   (case c4 => decide)
   intro h₁ F
   have N : News s.heap s.heap.objs.size h₁ [] := News.nil
   (try dsimp only); (try k_fold)
   repeat' (first | (k_unfold; (try dsimp only)) | ((with_reducible show wpAny _ _ (execs (_ :: _) _) _ _ _); refine execs_hide ?_; intro Qk9 kH9; (try dsimp only)) | ((with_reducible rename Hid _ _ _ => kH9); first | (refine hid_next kH9 ?_; clear kH9; (try clear Qk9)) | (refine hid_other kH9 (by nofun) ?_; clear kH9; (try clear Qk9)); (try dsimp only)) | ((with_reducible show wpAny _ _ (getMethod (Value.bytes _ _) _ _) _ _ _); (with_reducible refine getm_btr ?_)) | ((with_reducible show wpAny _ _ (getMethod (Value.type "bytes") _ _) _ _ _); refine getm_bmk (by k_asm) (by k_asm) ?_) | ((with_reducible show wpAny _ _ (call (Value.builtin "bytes.maketrans") _) _ _ _); k_dflt (refine' call_bmk ?_; intro _ _)) | ((with_reducible show wpAny _ _ (call (Value.builtin "bytes.translate") _) _ _ _); k_dflt (refine call_btr (by first | exact rfl | exact swap_size _ _) (by assumption) ?_; intro _ _)) | ((with_reducible show wpAny _ _ (binaryOp Operator.Add (Value.str _ _) (Value.str _ _)) _ _ _); k_dflt (refine SB.add ?_ (add_fits (by walk_at "m_len") (by walk_at "m_len") (by decide +kernel)); intro _ _; (try dsimp only))) | ((with_reducible show wpAny _ _ (call (Value.builtin "len") [Value.str _ _]) _ _ _); k_dflt (refine len_str_ok (Nat.le_trans (by walk_at "m_len") (by decide +kernel)) ?_; (try dsimp only))) | ((with_reducible show wpAny _ _ (call (Value.builtin "list.append") [Value.ref _, _]) _ _ _); k_dflt (refine append_K (by k_asm) (by k_asm) (by k_upd) ?_ (by refine size_ok ?_; (try simp only [List.size_toArray]); omega); k_whole); intro _ _ _; (try k_sweep)) | ((with_reducible show wpAny _ _ (storeName (compEnvC _ _ _ _) _ _) _ _ _); k_dflt (refine cc_store (by assumption) (by assumption) (by exact rfl) (by exact rfl) ?_); intro _ _ _; (try k_sweep)) | ((with_reducible show wpAny _ _ (eval (Expr.Name _ _) (compEnvC _ _ _ _)) _ _ _); k_dflt (refine cc_load (by assumption) (by exact rfl) ?_ (by exact rfl) (by exact rfl) (by exact rfl))) | ((with_reducible show wpAny _ _ _ _ _ _); (fail_if_success (with_reducible first | show wpAny _ _ (exec (Stmt.For _ _ _ _ _) _) _ _ _ | show wpAny _ _ (exec (Stmt.While _ _ _ _) _) _ _ _ | show wpAny _ _ (pyIter _) _ _ _ | show wpAny _ _ (call (Value.builtin "list.pop") _ _) _ _ _ | show wpAny _ _ (call (Value.builtin "str.join") _ _) _ _ _ | show wpAny _ _ (call (Value.builtin "max") _ _) _ _ _ | show wpAny _ _ (setItem _ _ _) _ _ _ | show wpAny _ _ (call (Value.builtin "str.replace") _ _) _ _ _ | show wpAny _ _ (call (Value.builtin "str.split") _ _) _ _ _ | show wpAny _ _ (call (Value.ref _) _ _) _ _ _ | show wpAny _ _ (eval (Expr.ListComp _ _ _ _) _) _ _ _ | show wpAny _ _ (exec (Stmt.Assign _ (Expr.ListComp _ _ _ _) _) _) _ _ _)); first | walk1 | (dsimp only; walk1)) | ((with_reducible show Frag.In _ _ ∧ _); (refine ⟨by k_in, ?_⟩); (try dsimp only [List.nil_append, List.cons_append])) | ((with_reducible show (if _ then _ else _)); walk1))
   refine' wpAny_call (enc_call ?x ?t ?a ?hh ?ds ?_)
   case x => exact X.keeps F.keep
   case t => exact T.keeps F.keep
   case a => show A.depth + 1 < 490; omega
   case hh => exact hh
   case ds => exact hds
   intro h₂ tk₂ t₂ st₂
   replace F := fr_stays F st₂
   replace N := news_stays N st₂
   dsimp only
   repeat' (first | (k_unfold; (try dsimp only)) | ((with_reducible show wpAny _ _ (execs (_ :: _) _) _ _ _); refine execs_hide ?_; intro Qk9 kH9; (try dsimp only)) | ((with_reducible rename Hid _ _ _ => kH9); first | (refine hid_next kH9 ?_; clear kH9; (try clear Qk9)) | (refine hid_other kH9 (by nofun) ?_; clear kH9; (try clear Qk9)); (try dsimp only)) | ((with_reducible show wpAny _ _ (getMethod (Value.bytes _ _) _ _) _ _ _); (with_reducible refine getm_btr ?_)) | ((with_reducible show wpAny _ _ (getMethod (Value.type "bytes") _ _) _ _ _); refine getm_bmk (by k_asm) (by k_asm) ?_) | ((with_reducible show wpAny _ _ (call (Value.builtin "bytes.maketrans") _) _ _ _); k_dflt (refine' call_bmk ?_; intro _ _)) | ((with_reducible show wpAny _ _ (call (Value.builtin "bytes.translate") _) _ _ _); k_dflt (refine call_btr (by first | exact rfl | exact swap_size _ _) (by assumption) ?_; intro _ _)) | ((with_reducible show wpAny _ _ (binaryOp Operator.Add (Value.str _ _) (Value.str _ _)) _ _ _); k_dflt (refine SB.add ?_ (add_fits (by walk_at "m_len") (by walk_at "m_len") (by decide +kernel)); intro _ _; (try dsimp only))) | ((with_reducible show wpAny _ _ (call (Value.builtin "len") [Value.str _ _]) _ _ _); k_dflt (refine len_str_ok (Nat.le_trans (by walk_at "m_len") (by decide +kernel)) ?_; (try dsimp only))) | ((with_reducible show wpAny _ _ (call (Value.builtin "list.append") [Value.ref _, _]) _ _ _); k_dflt (refine append_K (by k_asm) (by k_asm) (by k_upd) ?_ (by refine size_ok ?_; (try simp only [List.size_toArray]); omega); k_whole); intro _ _ _; (try k_sweep)) | ((with_reducible show wpAny _ _ (storeName (compEnvC _ _ _ _) _ _) _ _ _); k_dflt (refine cc_store (by assumption) (by assumption) (by exact rfl) (by exact rfl) ?_); intro _ _ _; (try k_sweep)) | ((with_reducible show wpAny _ _ (eval (Expr.Name _ _) (compEnvC _ _ _ _)) _ _ _); k_dflt (refine cc_load (by assumption) (by exact rfl) ?_ (by exact rfl) (by exact rfl) (by exact rfl))) | ((with_reducible show wpAny _ _ _ _ _ _); (fail_if_success (with_reducible first | show wpAny _ _ (exec (Stmt.For _ _ _ _ _) _) _ _ _ | show wpAny _ _ (exec (Stmt.While _ _ _ _) _) _ _ _ | show wpAny _ _ (pyIter _) _ _ _ | show wpAny _ _ (call (Value.builtin "list.pop") _ _) _ _ _ | show wpAny _ _ (call (Value.builtin "str.join") _ _) _ _ _ | show wpAny _ _ (call (Value.builtin "max") _ _) _ _ _ | show wpAny _ _ (setItem _ _ _) _ _ _ | show wpAny _ _ (call (Value.builtin "str.replace") _ _) _ _ _ | show wpAny _ _ (call (Value.builtin "str.split") _ _) _ _ _ | show wpAny _ _ (call (Value.ref _) _ _) _ _ _ | show wpAny _ _ (eval (Expr.ListComp _ _ _ _) _) _ _ _ | show wpAny _ _ (exec (Stmt.Assign _ (Expr.ListComp _ _ _ _) _) _) _ _ _)); first | walk1 | (dsimp only; walk1)) | ((with_reducible show Frag.In _ _ ∧ _); (refine ⟨by k_in, ?_⟩); (try dsimp only [List.nil_append, List.cons_append])) | ((with_reducible show (if _ then _ else _)); walk1))
   exact hR _ _ _ (Fr.keep (by assumption)))
set_option maxHeartbeats 8000000 in
theorem url_call {d : Array UInt8} {td : Tok} (X : (hk.heap_1 w.params).In s.heap) (T : Top p loose mean mg mb s.heap) (hA : A.depth < 480) (hh : A.handled = none) (hds : d.size ≤ 1000)
  (hR : ∀ h' tk t, Stays s.heap h' → R (.ok (.ret (.bytes (transl ((encode (d.toList.map UInt8.toNat)).map UInt8.ofNat).toArray (swap 45 95)) t))) { s with heap := h', toks := tk }) :
  codeAny (model lw.row.prog w) A (.call (.ref 72) ⟨[.bytes d td], []⟩) R s := by
  revert X
  k_fill
  intro X
  w_strict (
   w_top off
   refine' callOwn (binds := [(Str.ofString "s", .bytes d td)]) ?k1 ?k2 ?k3 ?k4 ?k5 ?k6 ?k7 ?_ ?c1 ?c2 ?c3 ?c4
   (case k1 => exact X)
   (case k2 => exact T.nolimit)
   (case k3 => k_is)
   (case k4 => k_is)
   (case k5 => show A.depth < 1000; omega)
   (case k6 => exact BindsTo.of_eq rfl)
   (case k7 => exact locs rfl)
   (case c1 => exact rfl)
   (case c2 => exact rfl)
   (case c3 => exact rfl)
   (case c4 => decide)
   intro h₁ F
   have N : News s.heap s.heap.objs.size h₁ [] := News.nil
   have hsz := enc_size hds
   (try dsimp only); (try k_fold)
   repeat' (first | (k_unfold; (try dsimp only)) | ((with_reducible show wpAny _ _ (execs (_ :: _) _) _ _ _); refine execs_hide ?_; intro Qk9 kH9; (try dsimp only)) | ((with_reducible rename Hid _ _ _ => kH9); first | (refine hid_next kH9 ?_; clear kH9; (try clear Qk9)) | (refine hid_other kH9 (by nofun) ?_; clear kH9; (try clear Qk9)); (try dsimp only)) | ((with_reducible show wpAny _ _ (getMethod (Value.bytes _ _) _ _) _ _ _); (with_reducible refine getm_btr ?_)) | ((with_reducible show wpAny _ _ (getMethod (Value.type "bytes") _ _) _ _ _); refine getm_bmk (by k_asm) (by k_asm) ?_) | ((with_reducible show wpAny _ _ (call (Value.builtin "bytes.maketrans") _) _ _ _); k_dflt (refine' call_bmk ?_; intro _ _)) | ((with_reducible show wpAny _ _ (call (Value.builtin "bytes.translate") _) _ _ _); k_dflt (refine call_btr (by first | exact rfl | exact swap_size _ _) (by assumption) ?_; intro _ _)) | ((with_reducible show wpAny _ _ (binaryOp Operator.Add (Value.str _ _) (Value.str _ _)) _ _ _); k_dflt (refine SB.add ?_ (add_fits (by walk_at "m_len") (by walk_at "m_len") (by decide +kernel)); intro _ _; (try dsimp only))) | ((with_reducible show wpAny _ _ (call (Value.builtin "len") [Value.str _ _]) _ _ _); k_dflt (refine len_str_ok (Nat.le_trans (by walk_at "m_len") (by decide +kernel)) ?_; (try dsimp only))) | ((with_reducible show wpAny _ _ (call (Value.builtin "list.append") [Value.ref _, _]) _ _ _); k_dflt (refine append_K (by k_asm) (by k_asm) (by k_upd) ?_ (by refine size_ok ?_; (try simp only [List.size_toArray]); omega); k_whole); intro _ _ _; (try k_sweep)) | ((with_reducible show wpAny _ _ (storeName (compEnvC _ _ _ _) _ _) _ _ _); k_dflt (refine cc_store (by assumption) (by assumption) (by exact rfl) (by exact rfl) ?_); intro _ _ _; (try k_sweep)) | ((with_reducible show wpAny _ _ (eval (Expr.Name _ _) (compEnvC _ _ _ _)) _ _ _); k_dflt (refine cc_load (by assumption) (by exact rfl) ?_ (by exact rfl) (by exact rfl) (by exact rfl))) | ((with_reducible show wpAny _ _ _ _ _ _); (fail_if_success (with_reducible first | show wpAny _ _ (exec (Stmt.For _ _ _ _ _) _) _ _ _ | show wpAny _ _ (exec (Stmt.While _ _ _ _) _) _ _ _ | show wpAny _ _ (pyIter _) _ _ _ | show wpAny _ _ (call (Value.builtin "list.pop") _ _) _ _ _ | show wpAny _ _ (call (Value.builtin "str.join") _ _) _ _ _ | show wpAny _ _ (call (Value.builtin "max") _ _) _ _ _ | show wpAny _ _ (setItem _ _ _) _ _ _ | show wpAny _ _ (call (Value.builtin "str.replace") _ _) _ _ _ | show wpAny _ _ (call (Value.builtin "str.split") _ _) _ _ _ | show wpAny _ _ (call (Value.ref _) _ _) _ _ _ | show wpAny _ _ (eval (Expr.ListComp _ _ _ _) _) _ _ _ | show wpAny _ _ (exec (Stmt.Assign _ (Expr.ListComp _ _ _ _) _) _) _ _ _)); first | walk1 | (dsimp only; walk1)) | ((with_reducible show Frag.In _ _ ∧ _); (refine ⟨by k_in, ?_⟩); (try dsimp only [List.nil_append, List.cons_append])) | ((with_reducible show (if _ then _ else _)); walk1))
   refine' wpAny_call (enc_call ?x ?t ?a ?hh ?ds ?_)
   case x => exact X.keeps F.keep
   case t => exact T.keeps F.keep
   case a => show A.depth + 1 < 490; omega
   case hh => exact hh
   case ds => exact hds
   intro h₂ tk₂ t₂ st₂
   replace F := fr_stays F st₂
   replace N := news_stays N st₂
   dsimp only
   repeat' (first | (k_unfold; (try dsimp only)) | ((with_reducible show wpAny _ _ (execs (_ :: _) _) _ _ _); refine execs_hide ?_; intro Qk9 kH9; (try dsimp only)) | ((with_reducible rename Hid _ _ _ => kH9); first | (refine hid_next kH9 ?_; clear kH9; (try clear Qk9)) | (refine hid_other kH9 (by nofun) ?_; clear kH9; (try clear Qk9)); (try dsimp only)) | ((with_reducible show wpAny _ _ (getMethod (Value.bytes _ _) _ _) _ _ _); (with_reducible refine getm_btr ?_)) | ((with_reducible show wpAny _ _ (getMethod (Value.type "bytes") _ _) _ _ _); refine getm_bmk (by k_asm) (by k_asm) ?_) | ((with_reducible show wpAny _ _ (call (Value.builtin "bytes.maketrans") _) _ _ _); k_dflt (refine' call_bmk ?_; intro _ _)) | ((with_reducible show wpAny _ _ (call (Value.builtin "bytes.translate") _) _ _ _); k_dflt (refine call_btr (by first | exact rfl | exact swap_size _ _) (by assumption) ?_; intro _ _)) | ((with_reducible show wpAny _ _ (binaryOp Operator.Add (Value.str _ _) (Value.str _ _)) _ _ _); k_dflt (refine SB.add ?_ (add_fits (by walk_at "m_len") (by walk_at "m_len") (by decide +kernel)); intro _ _; (try dsimp only))) | ((with_reducible show wpAny _ _ (call (Value.builtin "len") [Value.str _ _]) _ _ _); k_dflt (refine len_str_ok (Nat.le_trans (by walk_at "m_len") (by decide +kernel)) ?_; (try dsimp only))) | ((with_reducible show wpAny _ _ (call (Value.builtin "list.append") [Value.ref _, _]) _ _ _); k_dflt (refine append_K (by k_asm) (by k_asm) (by k_upd) ?_ (by refine size_ok ?_; (try simp only [List.size_toArray]); omega); k_whole); intro _ _ _; (try k_sweep)) | ((with_reducible show wpAny _ _ (storeName (compEnvC _ _ _ _) _ _) _ _ _); k_dflt (refine cc_store (by assumption) (by assumption) (by exact rfl) (by exact rfl) ?_); intro _ _ _; (try k_sweep)) | ((with_reducible show wpAny _ _ (eval (Expr.Name _ _) (compEnvC _ _ _ _)) _ _ _); k_dflt (refine cc_load (by assumption) (by exact rfl) ?_ (by exact rfl) (by exact rfl) (by exact rfl))) | ((with_reducible show wpAny _ _ _ _ _ _); (fail_if_success (with_reducible first | show wpAny _ _ (exec (Stmt.For _ _ _ _ _) _) _ _ _ | show wpAny _ _ (exec (Stmt.While _ _ _ _) _) _ _ _ | show wpAny _ _ (pyIter _) _ _ _ | show wpAny _ _ (call (Value.builtin "list.pop") _ _) _ _ _ | show wpAny _ _ (call (Value.builtin "str.join") _ _) _ _ _ | show wpAny _ _ (call (Value.builtin "max") _ _) _ _ _ | show wpAny _ _ (setItem _ _ _) _ _ _ | show wpAny _ _ (call (Value.builtin "str.replace") _ _) _ _ _ | show wpAny _ _ (call (Value.builtin "str.split") _ _) _ _ _ | show wpAny _ _ (call (Value.ref _) _ _) _ _ _ | show wpAny _ _ (eval (Expr.ListComp _ _ _ _) _) _ _ _ | show wpAny _ _ (exec (Stmt.Assign _ (Expr.ListComp _ _ _ _) _) _) _ _ _)); first | walk1 | (dsimp only; walk1)) | ((with_reducible show Frag.In _ _ ∧ _); (refine ⟨by k_in, ?_⟩); (try dsimp only [List.nil_append, List.cons_append])) | ((with_reducible show (if _ then _ else _)); walk1))
   rw [swap_url] at hR
   exact hR _ _ _ (Fr.keep (by assumption)))
end
end Part_enc

section Part_name
section
def mface (c : Nat) : Nat := if c = 47 ∨ c = 92 ∨ c = 58 ∨ c = 59 ∨ c = 34 ∨ c = 40 ∨ c = 41 then 45 else c
theorem occ_empty (x : Str) (c : Nat) : (Builtin.Str.occurrences x ⟨#[c]⟩ 0 x.length 1).isEmpty = !decide (c ∈ x.cps.toList) := by
  by_cases h : c ∈ x.cps.toList
  · obtain ⟨r, e⟩ := index_char h
    rw [e]; simp [h]
  · rcases StrLaws.occ_head x ⟨#[c]⟩ 1 (Nat.le_refl _) with ⟨e, _⟩ | ⟨i, r, e, ha, hn⟩
    · rw [e]; simp [h]
    · exact absurd (List.mem_of_getElem? ((StrLaws.subAt_one x c i).mp ha)) h
theorem turned : (Str.ofString "/\\:;\"()").cps.toList = [47, 92, 58, 59, 34, 40, 41] := by decide +kernel
theorem mface_out {c : Nat} (h : (Builtin.Str.occurrences (Str.ofString "/\\:;\"()") ⟨#[c]⟩ 0 (Str.ofString "/\\:;\"()").length 1).isEmpty = true) : mface c = c := by
  rw [occ_empty, turned] at h
  unfold mface
  rw [if_neg]
  simpa using h
theorem mface_in {c : Nat} (h : (Builtin.Str.occurrences (Str.ofString "/\\:;\"()") ⟨#[c]⟩ 0 (Str.ofString "/\\:;\"()").length 1).isEmpty = false) : mface c = 45 := by
  rw [occ_empty, turned] at h
  unfold mface
  rw [if_pos]
  rw [Bool.not_eq_false'] at h
  have h2 : c ∈ [47, 92, 58, 59, 34, 40, 41] := of_decide_eq_true h
  simpa using h2
theorem star_lit : Str.ofString "*" = ⟨#[42]⟩ := by decide +kernel
theorem bang_lit : Str.ofString "!" = ⟨#[33]⟩ := by decide +kernel
theorem one_ne {x : Str} {c d : Nat} (hx : x = ⟨#[c]⟩) (h : d ≠ c) : (x == (⟨#[d]⟩ : Str)) = false := by
  subst hx
  rw [beq_eq_false_iff_ne]
  intro e
  have : (#[c] : Array Nat) = #[d] := congrArg Str.cps e
  simp at this
  exact h this.symm
theorem repl_one (c d : Nat) : ∀ l : List Nat, replL [c] [d] l = l.map (fun x => if x = c then d else x)
  | [] => replL_nil _ _
  | x :: r => by
    by_cases h : x = c
    · subst h
      have e := replL_hit (p := [x]) (z := [d]) (l := x :: r) (by simp) ⟨r, rfl⟩
      rw [e]
      show [d] ++ replL [x] [d] r = _
      rw [repl_one x d r, List.map_cons, if_pos rfl]; rfl
    · rw [replL_miss (by rw [List.cons_prefix_cons]; exact fun e => h e.1.symm), repl_one c d r, List.map_cons, if_neg h]
theorem replace_sign (x y : Str) (c d : Nat) (hy : y = ⟨#[c]⟩) : (Txt.replace x y ⟨#[d]⟩).cps.toList = x.cps.toList.map (fun k => if k = c then d else k) := by
  subst hy
  rw [replace_list x ⟨#[c]⟩ ⟨#[d]⟩ (Nat.le_refl 1)]
  exact repl_one c d _
theorem split_len (x y : Str) : (Txt.split x y).length ≤ x.length + 2 := by
  unfold Txt.split
  split
  · simp
  · split
    · simp
    · rw [len_partsBetween]
      have := StrLaws.occ_length_le x y 0 x.length (x.length + 1)
      omega
theorem strValues_len : ∀ l : List (Str × Tok), (strValues l).length = l.length
  | [] => rfl
  | _ :: r => by show (strValues r).length + 1 = r.length + 1; rw [strValues_len r]
theorem strValues_map : ∀ l : List (Str × Tok), strValues l = l.map fun p => Value.str p.1 p.2
  | [] => rfl
  | p :: r => congrArg (Value.str p.1 p.2 :: ·) (strValues_map r)
theorem strValues_at {qs : List (Str × Tok)} {i : Nat} {v : Value} (h : (strValues qs).toArray[i]? = some v) : ∃ y t, qs[i]? = some (y, t) ∧ v = .str y t := by
  rw [List.getElem?_toArray] at h
  rw [strValues_map, List.getElem?_map] at h
  cases hq : qs[i]? with
  | none => rw [hq] at h; cases h
  | some p => rw [hq] at h; exact ⟨p.1, p.2, rfl, (Option.some.inj h).symm⟩
theorem empty_list : (Str.ofString "").cps.toList = [] := by decide +kernel
theorem str_ne {y : Str} (h : (y != Str.ofString "") = true) : ¬ y.cps.toList = [] := by
  intro e
  have h2 : y = Str.ofString "" := str_ext (by rw [e, empty_list])
  rw [h2] at h
  simp at h
theorem str_eq {y : Str} (h : (y != Str.ofString "") = false) : y.cps.toList = [] := by
  have h2 : y = Str.ofString "" := by simpa using h
  rw [h2, empty_list]
/-- the parts that a comprehension has kept -/
theorem picked_parts : ∀ {qs : List (Str × Tok)} {rs : List (Option Value × List (Addr × Obj))}, rs.length = qs.length →
    (∀ (i : Nat) (r : Option Value × List (Addr × Obj)), rs[i]? = some r → ∃ (y : Str) (t : Tok), qs[i]? = some (y, t) ∧ r.1 = if y.cps.toList = [] then none else some (.str y t)) →
    rs.filterMap (·.1) = strValues (qs.filter fun p => !p.1.cps.toList.isEmpty)
  | [], [], _, _ => rfl
  | [], _ :: _, h, _ => by simp at h
  | _ :: _, [], h, _ => by simp at h
  | q :: qs, r :: rs, h, hr => by
    obtain ⟨y, t, e1, e2⟩ := hr 0 r rfl
    have e3 : q = (y, t) := Option.some.inj e1
    have ih := picked_parts (qs := qs) (rs := rs) (by simpa using h) fun i r' hi => hr (i + 1) r' hi
    subst e3
    rw [List.filterMap_cons, List.filter_cons]
    by_cases hy : y.cps.toList = []
    · rw [if_pos hy] at e2
      rw [e2, ih]
      simp [hy]
    · rw [if_neg hy] at e2
      rw [e2, ih]
      have : (!y.cps.toList.isEmpty) = true := by rw [Bool.not_eq_true', List.isEmpty_eq_false_iff]; exact hy
      rw [if_pos this]; rfl
theorem hy_lit : Str.ofString "-" = ⟨#[45]⟩ := by decide +kernel
theorem join_hy : ∀ (y : Str) (ys : List Str), (Str.join (Str.ofString "-") (y :: ys)).cps.toList = y.cps.toList ++ ys.flatMap (fun q => 45 :: q.cps.toList)
  | y, [] => by show y.cps.toList = _; simp
  | y, z :: r => by
    have e : (Str.ofString "-").cps.toList = [45] := by decide +kernel
    show (y ++ Str.ofString "-" ++ Str.join (Str.ofString "-") (z :: r)).cps.toList = _
    rw [cps_add, cps_add, join_hy z r, e, List.flatMap_cons]; simp
theorem name_plain {q0 : Str × Tok} {qs : List (Str × Tok)} {x : Str} (h : (q0 :: qs).map (·.1) = Txt.split x (Str.ofString "-")) :
    (Str.join (Str.ofString "-") (q0.1 :: (qs.filter fun p => !p.1.cps.toList.isEmpty).map (·.1))).cps.toList = sqz false x.cps.toList := by
  have hf := fun p hp => StrLaws.split_free x 45 p hp
  rw [← hy_lit, ← h] at hf
  have hj := StrLaws.join_split x (Str.ofString "-")
  rw [← h, List.map_cons] at hj
  have hx : x.cps.toList = q0.1.cps.toList ++ (qs.map (·.1)).flatMap (fun q => 45 :: q.cps.toList) := by
    rw [← join_hy, hj]
  rw [join_hy, hx]
  have e1 := hyJoin_sqz q0.1.cps.toList (qs.map fun p => p.1.cps.toList) (fun c hc e => hf q0.1 (by simp) (e ▸ hc)) (fun q hq c hc e => by
    obtain ⟨p, hp, rfl⟩ := List.mem_map.mp hq
    exact hf p.1 (List.mem_cons_of_mem _ (List.mem_map.mpr ⟨p, hp, rfl⟩)) (e ▸ hc))
  unfold hyJoin at e1
  rw [List.filter_map, List.flatMap_map, List.flatMap_map] at e1
  rw [List.flatMap_map, List.flatMap_map]
  exact e1
theorem two_of {α : Type} : ∀ {l : List α}, l.length = 2 → ∃ a b, l = [a, b]
  | [a, b], _ => ⟨a, b, rfl⟩
theorem cons_of {α : Type} : ∀ {l : List α}, 1 ≤ l.length → ∃ a r, l = a :: r
  | a :: r, _ => ⟨a, r, rfl⟩
variable {w : World} {A : Around} {s : Shared} {R : Result → Shared → Prop} {p : Program} {loose : List Str} {mg mb : Str → Option Value}
set_option maxHeartbeats 8000000 in
theorem name_call {left : Str} {a b : Nat} {tl tp : Tok} (X : (hk.heap_1 w.params).In s.heap) (T : TopRead p loose mg mb s.heap) (hA : A.depth < 600) (hU : A.units + 100 < cLine) (hh : A.handled = none) (htk : 1 ≤ s.toks)
  (ha : a < 128) (hb : b < 128) (ha2 : a ≠ 42 ∧ a ≠ 33) (hb2 : b ≠ 42 ∧ b ≠ 33) (hl : left.length ≤ 300) (hls : ∀ c ∈ left.cps.toList, c < 128)
  (hR : ∀ h' tk r t, Stays s.heap h' → r.cps.toList = sqz false (left.cps.toList.map (fm (mface a) (mface b))) → R (.ok (.ret (.str r t))) { s with heap := h', toks := tk }) :
  codeAny (model lw.row.prog w) A (.call (.ref 103) ⟨[.str left tl, .str ⟨#[a, b]⟩ tp], []⟩) R s := by
  revert X
  k_fill
  intro X
  w_strict (
   w_top off
   refine' callOwn (binds := [(Str.ofString "left", .str left tl), (Str.ofString "two", .str ⟨#[a, b]⟩ tp)]) ?k1 ?k2 ?k3 ?k4 ?k5 ?k6 ?k7 ?_ ?c1 ?c2 ?c3 ?c4
   (case k1 => exact X)
   (case k2 => exact T.nolimit)
   (case k3 => k_is)
   (case k4 => k_is)
   (case k5 => show A.depth < 1000; omega)
   (case k6 => exact BindsTo.of_eq rfl)
   (case k7 => exact locs rfl)
   (case c1 => exact rfl)
   (case c2 => exact rfl)
   (case c3 => exact rfl)
   (case c4 => decide)
   intro h₁ F
   have N : News s.heap s.heap.objs.size h₁ [] := News.nil
   (try dsimp only); (try k_fold)
   repeat' (first | ((with_reducible show ((_ : Nat) ≤ _ → _)); intro htk9; (try dsimp only at htk9); revert htk9; intro _) | ((with_reducible show wpAny _ _ (execs (_ :: _) _) _ _ _); refine execs_hidt (by first | omega | (dsimp only; omega)) ?_; intro _ _ htk9; (try dsimp only at htk9); revert htk9; intro _ Qk9 kH9; (try dsimp only)) | ((with_reducible show wpAny _ _ (execs [] _) _ _ _); refine wpAny_execs_nil ?_; (try dsimp only)) | (first | (k_unfold; (try dsimp only)) | ((with_reducible show wpAny _ _ (execs (_ :: _) _) _ _ _); refine execs_hide ?_; intro Qk9 kH9; (try dsimp only)) | ((with_reducible rename Hid _ _ _ => kH9); first | (refine hid_next kH9 ?_; clear kH9; (try clear Qk9)) | (refine hid_other kH9 (by nofun) ?_; clear kH9; (try clear Qk9)); (try dsimp only)) | ((with_reducible show wpAny _ _ (binaryOp Operator.Add (Value.str _ _) (Value.str _ _)) _ _ _); k_dflt (refine SB.add ?_ (add_fits (by walk_at "m_len") (by walk_at "m_len") (by decide +kernel)); intro _ _; (try dsimp only))) | ((with_reducible show wpAny _ _ (call (Value.builtin "len") [Value.str _ _]) _ _ _); k_dflt (refine len_str_ok (Nat.le_trans (by walk_at "m_len") (by decide +kernel)) ?_; (try dsimp only))) | ((with_reducible show wpAny _ _ (call (Value.builtin "list.append") [Value.ref _, _]) _ _ _); k_dflt (refine append_K (by k_asm) (by k_asm) (by k_upd) ?_ (by refine size_ok ?_; (try simp only [List.size_toArray]); omega); k_whole); intro _ _ _; (try k_sweep)) | ((with_reducible show wpAny _ _ (storeName (compEnvC _ _ _ _) _ _) _ _ _); k_dflt (refine cc_store (by assumption) (by assumption) (by exact rfl) (by exact rfl) ?_); intro _ _ _; (try k_sweep)) | ((with_reducible show wpAny _ _ (eval (Expr.Name _ _) (compEnvC _ _ _ _)) _ _ _); k_dflt (refine cc_load (by assumption) (by exact rfl) ?_ (by exact rfl) (by exact rfl) (by exact rfl))) | ((with_reducible show wpAny _ _ _ _ _ _); (fail_if_success (with_reducible first | show wpAny _ _ (exec (Stmt.For _ _ _ _ _) _) _ _ _ | show wpAny _ _ (exec (Stmt.While _ _ _ _) _) _ _ _ | show wpAny _ _ (pyIter _) _ _ _ | show wpAny _ _ (call (Value.builtin "list.pop") _ _) _ _ _ | show wpAny _ _ (call (Value.builtin "str.join") _ _) _ _ _ | show wpAny _ _ (call (Value.builtin "max") _ _) _ _ _ | show wpAny _ _ (setItem _ _ _) _ _ _ | show wpAny _ _ (call (Value.builtin "str.replace") _ _) _ _ _ | show wpAny _ _ (call (Value.builtin "str.split") _ _) _ _ _ | show wpAny _ _ (call (Value.ref _) _ _) _ _ _ | show wpAny _ _ (eval (Expr.ListComp _ _ _ _) _) _ _ _ | show wpAny _ _ (exec (Stmt.Assign _ (Expr.ListComp _ _ _ _) _) _) _ _ _)); first | walk1 | (dsimp only; walk1)) | ((with_reducible show Frag.In _ _ ∧ _); (refine ⟨by k_in, ?_⟩); (try dsimp only [List.nil_append, List.cons_append])) | ((with_reducible show (if _ then _ else _)); walk1)))
   refine comp_assign (h₀ := s.heap) (by exact rfl) (by exact rfl) (by decide) (by exact rfl) (by decide) (by exact rfl) (by exact rfl) ?_
   repeat' (first | (k_unfold; (try dsimp only)) | ((with_reducible show wpAny _ _ (execs (_ :: _) _) _ _ _); refine execs_hide ?_; intro Qk9 kH9; (try dsimp only)) | ((with_reducible rename Hid _ _ _ => kH9); first | (refine hid_next kH9 ?_; clear kH9; (try clear Qk9)) | (refine hid_other kH9 (by nofun) ?_; clear kH9; (try clear Qk9)); (try dsimp only)) | ((with_reducible show wpAny _ _ (binaryOp Operator.Add (Value.str _ _) (Value.str _ _)) _ _ _); k_dflt (refine SB.add ?_ (add_fits (by walk_at "m_len") (by walk_at "m_len") (by decide +kernel)); intro _ _; (try dsimp only))) | ((with_reducible show wpAny _ _ (call (Value.builtin "len") [Value.str _ _]) _ _ _); k_dflt (refine len_str_ok (Nat.le_trans (by walk_at "m_len") (by decide +kernel)) ?_; (try dsimp only))) | ((with_reducible show wpAny _ _ (call (Value.builtin "list.append") [Value.ref _, _]) _ _ _); k_dflt (refine append_K (by k_asm) (by k_asm) (by k_upd) ?_ (by refine size_ok ?_; (try simp only [List.size_toArray]); omega); k_whole); intro _ _ _; (try k_sweep)) | ((with_reducible show wpAny _ _ (storeName (compEnvC _ _ _ _) _ _) _ _ _); k_dflt (refine cc_store (by assumption) (by assumption) (by exact rfl) (by exact rfl) ?_); intro _ _ _; (try k_sweep)) | ((with_reducible show wpAny _ _ (eval (Expr.Name _ _) (compEnvC _ _ _ _)) _ _ _); k_dflt (refine cc_load (by assumption) (by exact rfl) ?_ (by exact rfl) (by exact rfl) (by exact rfl))) | ((with_reducible show wpAny _ _ _ _ _ _); (fail_if_success (with_reducible first | show wpAny _ _ (exec (Stmt.For _ _ _ _ _) _) _ _ _ | show wpAny _ _ (exec (Stmt.While _ _ _ _) _) _ _ _ | show wpAny _ _ (pyIter _) _ _ _ | show wpAny _ _ (call (Value.builtin "list.pop") _ _) _ _ _ | show wpAny _ _ (call (Value.builtin "str.join") _ _) _ _ _ | show wpAny _ _ (call (Value.builtin "max") _ _) _ _ _ | show wpAny _ _ (setItem _ _ _) _ _ _ | show wpAny _ _ (call (Value.builtin "str.replace") _ _) _ _ _ | show wpAny _ _ (call (Value.builtin "str.split") _ _) _ _ _ | show wpAny _ _ (call (Value.ref _) _ _) _ _ _ | show wpAny _ _ (eval (Expr.ListComp _ _ _ _) _) _ _ _ | show wpAny _ _ (exec (Stmt.Assign _ (Expr.ListComp _ _ _ _) _) _) _ _ _)); first | walk1 | (dsimp only; walk1)) | ((with_reducible show Frag.In _ _ ∧ _); (refine ⟨by k_in, ?_⟩); (try dsimp only [List.nil_append, List.cons_append])) | ((with_reducible show (if _ then _ else _)); walk1))
   refine ⟨_, _, F, N, ?_⟩
   refine compi_str (fun i r objs k => ∃ c, ∃ u : Nat, #[a, b][i]? = some c ∧ r = some (.str ⟨#[mface c]⟩ u) ∧ objs = [] ∧ 1 ≤ u ∧ u < k) hh ?_ ?_ ?_ ?_
   · simp [ha, hb]
   · show 2 ≤ sizeLine; rw [sizeLine_eq]; decide
   · rintro C i v h tk m₁ olds hi ⟨c, u, hc, rfl, hu1, hu2⟩ htk2 F₁ N₁
     dsimp only at hu1 hu2 htk2 F₁ N₁
     repeat' (first | (k_unfold; (try dsimp only)) | ((with_reducible show wpAny _ _ (execs (_ :: _) _) _ _ _); refine execs_hide ?_; intro Qk9 kH9; (try dsimp only)) | ((with_reducible rename Hid _ _ _ => kH9); first | (refine hid_next kH9 ?_; clear kH9; (try clear Qk9)) | (refine hid_other kH9 (by nofun) ?_; clear kH9; (try clear Qk9)); (try dsimp only)) | ((with_reducible show wpAny _ _ (binaryOp Operator.Add (Value.str _ _) (Value.str _ _)) _ _ _); k_dflt (refine SB.add ?_ (add_fits (by walk_at "m_len") (by walk_at "m_len") (by decide +kernel)); intro _ _; (try dsimp only))) | ((with_reducible show wpAny _ _ (call (Value.builtin "len") [Value.str _ _]) _ _ _); k_dflt (refine len_str_ok (Nat.le_trans (by walk_at "m_len") (by decide +kernel)) ?_; (try dsimp only))) | ((with_reducible show wpAny _ _ (call (Value.builtin "list.append") [Value.ref _, _]) _ _ _); k_dflt (refine append_K (by k_asm) (by k_asm) (by k_upd) ?_ (by refine size_ok ?_; (try simp only [List.size_toArray]); omega); k_whole); intro _ _ _; (try k_sweep)) | ((with_reducible show wpAny _ _ (storeName (compEnvC _ _ _ _) _ _) _ _ _); k_dflt (refine cc_store (by assumption) (by assumption) (by exact rfl) (by exact rfl) ?_); intro _ _ _; (try k_sweep)) | ((with_reducible show wpAny _ _ (eval (Expr.Name _ _) (compEnvC _ _ _ _)) _ _ _); k_dflt (refine cc_load (by assumption) (by exact rfl) ?_ (by exact rfl) (by exact rfl) (by exact rfl))) | ((with_reducible show wpAny _ _ _ _ _ _); (fail_if_success (with_reducible first | show wpAny _ _ (exec (Stmt.For _ _ _ _ _) _) _ _ _ | show wpAny _ _ (exec (Stmt.While _ _ _ _) _) _ _ _ | show wpAny _ _ (pyIter _) _ _ _ | show wpAny _ _ (call (Value.builtin "list.pop") _ _) _ _ _ | show wpAny _ _ (call (Value.builtin "str.join") _ _) _ _ _ | show wpAny _ _ (call (Value.builtin "max") _ _) _ _ _ | show wpAny _ _ (setItem _ _ _) _ _ _ | show wpAny _ _ (call (Value.builtin "str.replace") _ _) _ _ _ | show wpAny _ _ (call (Value.builtin "str.split") _ _) _ _ _ | show wpAny _ _ (call (Value.ref _) _ _) _ _ _ | show wpAny _ _ (eval (Expr.ListComp _ _ _ _) _) _ _ _ | show wpAny _ _ (exec (Stmt.Assign _ (Expr.ListComp _ _ _ _) _) _) _ _ _)); first | walk1 | (dsimp only; walk1)) | ((with_reducible show Frag.In _ _ ∧ _); (refine ⟨by k_in, ?_⟩); (try dsimp only [List.nil_append, List.cons_append])) | ((with_reducible show (if _ then _ else _)); walk1))
     · rename_i F' N' ho
       exact ⟨_, _, _, [], rfl, F', N', (fun q hq => nomatch hq), c, u, by simpa using hc, by rw [mface_out ho], rfl, by omega, by first | exact hu2 | (dsimp only; omega)⟩
     · rename_i F' N' ho
       refine ⟨_, _, _, [], rfl, F', N', (fun q hq => nomatch hq), c, _, by simpa using hc, by rw [mface_in ho, ← hy_lit], rfl, ?_, ?_⟩
       · dsimp only; omega
       · dsimp only; omega
   · intro h' D h2 tk2 rs k hD hdis htk2 hlen hEl F₂ N₂
     dsimp only at htk2
     obtain ⟨r0, r1, rfl⟩ := two_of hlen
     obtain ⟨k0, hk0, c0, u0, e0, er0, eo0, hu0, hk0'⟩ := hEl 0 r0 rfl
     obtain ⟨k1, hk1, c1, u1, e1, er1, eo1, hu1, hk1'⟩ := hEl 1 r1 rfl
     obtain ⟨v0, o0⟩ := r0
     obtain ⟨v1, o1⟩ := r1
     simp only [List.getElem?_toArray, List.getElem?_cons_zero, List.getElem?_cons_succ, Option.some.injEq] at e0 e1 er0 er1 eo0 eo1
     subst e0 e1 er0 er1 eo0 eo1
     change News s.heap s.heap.objs.size h2 [(D, W.listOf #[.str ⟨#[mface a]⟩ u0, .str ⟨#[mface b]⟩ u1] k)] at N₂
     change Fr s.heap s.heap.objs.size h2 _ at F₂
     clear hEl hdis hD N F
     have hma : mface a ≠ 42 ∧ mface a ≠ 33 := by unfold mface; split <;> omega
     have hmb : mface b ≠ 42 ∧ mface b ≠ 33 := by unfold mface; split <;> omega
     repeat' (first | ((with_reducible show ((_ : Nat) ≤ _ → _)); intro htk9; (try dsimp only at htk9); revert htk9; intro _) | ((with_reducible show wpAny _ _ (execs (_ :: _) _) _ _ _); refine execs_hidt (by first | omega | (dsimp only; omega)) ?_; intro _ _ htk9; (try dsimp only at htk9); revert htk9; intro _ Qk9 kH9; (try dsimp only)) | ((with_reducible show wpAny _ _ (execs [] _) _ _ _); refine wpAny_execs_nil ?_; (try dsimp only)) | (first | (k_unfold; (try dsimp only)) | ((with_reducible show wpAny _ _ (execs (_ :: _) _) _ _ _); refine execs_hide ?_; intro Qk9 kH9; (try dsimp only)) | ((with_reducible rename Hid _ _ _ => kH9); first | (refine hid_next kH9 ?_; clear kH9; (try clear Qk9)) | (refine hid_other kH9 (by nofun) ?_; clear kH9; (try clear Qk9)); (try dsimp only)) | ((with_reducible show wpAny _ _ (binaryOp Operator.Add (Value.str _ _) (Value.str _ _)) _ _ _); k_dflt (refine SB.add ?_ (add_fits (by walk_at "m_len") (by walk_at "m_len") (by decide +kernel)); intro _ _; (try dsimp only))) | ((with_reducible show wpAny _ _ (call (Value.builtin "len") [Value.str _ _]) _ _ _); k_dflt (refine len_str_ok (Nat.le_trans (by walk_at "m_len") (by decide +kernel)) ?_; (try dsimp only))) | ((with_reducible show wpAny _ _ (call (Value.builtin "list.append") [Value.ref _, _]) _ _ _); k_dflt (refine append_K (by k_asm) (by k_asm) (by k_upd) ?_ (by refine size_ok ?_; (try simp only [List.size_toArray]); omega); k_whole); intro _ _ _; (try k_sweep)) | ((with_reducible show wpAny _ _ (storeName (compEnvC _ _ _ _) _ _) _ _ _); k_dflt (refine cc_store (by assumption) (by assumption) (by exact rfl) (by exact rfl) ?_); intro _ _ _; (try k_sweep)) | ((with_reducible show wpAny _ _ (eval (Expr.Name _ _) (compEnvC _ _ _ _)) _ _ _); k_dflt (refine cc_load (by assumption) (by exact rfl) ?_ (by exact rfl) (by exact rfl) (by exact rfl))) | ((with_reducible show wpAny _ _ _ _ _ _); (fail_if_success (with_reducible first | show wpAny _ _ (exec (Stmt.For _ _ _ _ _) _) _ _ _ | show wpAny _ _ (exec (Stmt.While _ _ _ _) _) _ _ _ | show wpAny _ _ (pyIter _) _ _ _ | show wpAny _ _ (call (Value.builtin "list.pop") _ _) _ _ _ | show wpAny _ _ (call (Value.builtin "str.join") _ _) _ _ _ | show wpAny _ _ (call (Value.builtin "max") _ _) _ _ _ | show wpAny _ _ (setItem _ _ _) _ _ _ | show wpAny _ _ (call (Value.builtin "str.replace") _ _) _ _ _ | show wpAny _ _ (call (Value.builtin "str.split") _ _) _ _ _ | show wpAny _ _ (call (Value.ref _) _ _) _ _ _ | show wpAny _ _ (eval (Expr.ListComp _ _ _ _) _) _ _ _ | show wpAny _ _ (exec (Stmt.Assign _ (Expr.ListComp _ _ _ _) _) _) _ _ _)); first | walk1 | (dsimp only; walk1)) | ((with_reducible show Frag.In _ _ ∧ _); (refine ⟨by k_in, ?_⟩); (try dsimp only [List.nil_append, List.cons_append])) | ((with_reducible show (if _ then _ else _)); walk1)))
     refine' repl_tok ?u ?v ?uv ?yz ?x ?z ?_
     case u => omega
     case v => omega
     case uv => omega
     case yz => exact one_ne star_lit hma.1
     case x => omega
     case z => show 1 ≤ 100; decide
     intro t1 kk1 hkk1
     have hx1 := replace_sign left (Str.ofString "*") 42 (mface a) star_lit
     generalize Txt.replace left (Str.ofString "*") ⟨#[mface a]⟩ = x1 at hx1
     have hx1l : x1.length ≤ 300 := by rw [len_list, hx1, List.length_map, ← len_list]; exact hl
     dsimp only at hkk1
     repeat' (first | ((with_reducible show ((_ : Nat) ≤ _ → _)); intro htk9; (try dsimp only at htk9); revert htk9; intro _) | ((with_reducible show wpAny _ _ (execs (_ :: _) _) _ _ _); refine execs_hidt (by first | omega | (dsimp only; omega)) ?_; intro _ _ htk9; (try dsimp only at htk9); revert htk9; intro _ Qk9 kH9; (try dsimp only)) | ((with_reducible show wpAny _ _ (execs [] _) _ _ _); refine wpAny_execs_nil ?_; (try dsimp only)) | (first | (k_unfold; (try dsimp only)) | ((with_reducible show wpAny _ _ (execs (_ :: _) _) _ _ _); refine execs_hide ?_; intro Qk9 kH9; (try dsimp only)) | ((with_reducible rename Hid _ _ _ => kH9); first | (refine hid_next kH9 ?_; clear kH9; (try clear Qk9)) | (refine hid_other kH9 (by nofun) ?_; clear kH9; (try clear Qk9)); (try dsimp only)) | ((with_reducible show wpAny _ _ (binaryOp Operator.Add (Value.str _ _) (Value.str _ _)) _ _ _); k_dflt (refine SB.add ?_ (add_fits (by walk_at "m_len") (by walk_at "m_len") (by decide +kernel)); intro _ _; (try dsimp only))) | ((with_reducible show wpAny _ _ (call (Value.builtin "len") [Value.str _ _]) _ _ _); k_dflt (refine len_str_ok (Nat.le_trans (by walk_at "m_len") (by decide +kernel)) ?_; (try dsimp only))) | ((with_reducible show wpAny _ _ (call (Value.builtin "list.append") [Value.ref _, _]) _ _ _); k_dflt (refine append_K (by k_asm) (by k_asm) (by k_upd) ?_ (by refine size_ok ?_; (try simp only [List.size_toArray]); omega); k_whole); intro _ _ _; (try k_sweep)) | ((with_reducible show wpAny _ _ (storeName (compEnvC _ _ _ _) _ _) _ _ _); k_dflt (refine cc_store (by assumption) (by assumption) (by exact rfl) (by exact rfl) ?_); intro _ _ _; (try k_sweep)) | ((with_reducible show wpAny _ _ (eval (Expr.Name _ _) (compEnvC _ _ _ _)) _ _ _); k_dflt (refine cc_load (by assumption) (by exact rfl) ?_ (by exact rfl) (by exact rfl) (by exact rfl))) | ((with_reducible show wpAny _ _ _ _ _ _); (fail_if_success (with_reducible first | show wpAny _ _ (exec (Stmt.For _ _ _ _ _) _) _ _ _ | show wpAny _ _ (exec (Stmt.While _ _ _ _) _) _ _ _ | show wpAny _ _ (pyIter _) _ _ _ | show wpAny _ _ (call (Value.builtin "list.pop") _ _) _ _ _ | show wpAny _ _ (call (Value.builtin "str.join") _ _) _ _ _ | show wpAny _ _ (call (Value.builtin "max") _ _) _ _ _ | show wpAny _ _ (setItem _ _ _) _ _ _ | show wpAny _ _ (call (Value.builtin "str.replace") _ _) _ _ _ | show wpAny _ _ (call (Value.builtin "str.split") _ _) _ _ _ | show wpAny _ _ (call (Value.ref _) _ _) _ _ _ | show wpAny _ _ (eval (Expr.ListComp _ _ _ _) _) _ _ _ | show wpAny _ _ (exec (Stmt.Assign _ (Expr.ListComp _ _ _ _) _) _) _ _ _)); first | walk1 | (dsimp only; walk1)) | ((with_reducible show Frag.In _ _ ∧ _); (refine ⟨by k_in, ?_⟩); (try dsimp only [List.nil_append, List.cons_append])) | ((with_reducible show (if _ then _ else _)); walk1)))
     refine' repl_tok ?u ?v ?uv ?yz ?x ?z ?_
     case u => omega
     case v => omega
     case uv => omega
     case yz => exact one_ne bang_lit hmb.2
     case x => omega
     case z => show 1 ≤ 100; decide
     intro t2 kk2 hkk2
     have hx2 := replace_sign x1 (Str.ofString "!") 33 (mface b) bang_lit
     generalize Txt.replace x1 (Str.ofString "!") ⟨#[mface b]⟩ = x2 at hx2
     have hx2l : x2.length ≤ 300 := by rw [len_list, hx2, List.length_map, ← len_list]; exact hx1l
     dsimp only at hkk2
     repeat' (first | ((with_reducible show ((_ : Nat) ≤ _ → _)); intro htk9; (try dsimp only at htk9); revert htk9; intro _) | ((with_reducible show wpAny _ _ (execs (_ :: _) _) _ _ _); refine execs_hidt (by first | omega | (dsimp only; omega)) ?_; intro _ _ htk9; (try dsimp only at htk9); revert htk9; intro _ Qk9 kH9; (try dsimp only)) | ((with_reducible show wpAny _ _ (execs [] _) _ _ _); refine wpAny_execs_nil ?_; (try dsimp only)) | (first | (k_unfold; (try dsimp only)) | ((with_reducible show wpAny _ _ (execs (_ :: _) _) _ _ _); refine execs_hide ?_; intro Qk9 kH9; (try dsimp only)) | ((with_reducible rename Hid _ _ _ => kH9); first | (refine hid_next kH9 ?_; clear kH9; (try clear Qk9)) | (refine hid_other kH9 (by nofun) ?_; clear kH9; (try clear Qk9)); (try dsimp only)) | ((with_reducible show wpAny _ _ (binaryOp Operator.Add (Value.str _ _) (Value.str _ _)) _ _ _); k_dflt (refine SB.add ?_ (add_fits (by walk_at "m_len") (by walk_at "m_len") (by decide +kernel)); intro _ _; (try dsimp only))) | ((with_reducible show wpAny _ _ (call (Value.builtin "len") [Value.str _ _]) _ _ _); k_dflt (refine len_str_ok (Nat.le_trans (by walk_at "m_len") (by decide +kernel)) ?_; (try dsimp only))) | ((with_reducible show wpAny _ _ (call (Value.builtin "list.append") [Value.ref _, _]) _ _ _); k_dflt (refine append_K (by k_asm) (by k_asm) (by k_upd) ?_ (by refine size_ok ?_; (try simp only [List.size_toArray]); omega); k_whole); intro _ _ _; (try k_sweep)) | ((with_reducible show wpAny _ _ (storeName (compEnvC _ _ _ _) _ _) _ _ _); k_dflt (refine cc_store (by assumption) (by assumption) (by exact rfl) (by exact rfl) ?_); intro _ _ _; (try k_sweep)) | ((with_reducible show wpAny _ _ (eval (Expr.Name _ _) (compEnvC _ _ _ _)) _ _ _); k_dflt (refine cc_load (by assumption) (by exact rfl) ?_ (by exact rfl) (by exact rfl) (by exact rfl))) | ((with_reducible show wpAny _ _ _ _ _ _); (fail_if_success (with_reducible first | show wpAny _ _ (exec (Stmt.For _ _ _ _ _) _) _ _ _ | show wpAny _ _ (exec (Stmt.While _ _ _ _) _) _ _ _ | show wpAny _ _ (pyIter _) _ _ _ | show wpAny _ _ (call (Value.builtin "list.pop") _ _) _ _ _ | show wpAny _ _ (call (Value.builtin "str.join") _ _) _ _ _ | show wpAny _ _ (call (Value.builtin "max") _ _) _ _ _ | show wpAny _ _ (setItem _ _ _) _ _ _ | show wpAny _ _ (call (Value.builtin "str.replace") _ _) _ _ _ | show wpAny _ _ (call (Value.builtin "str.split") _ _) _ _ _ | show wpAny _ _ (call (Value.ref _) _ _) _ _ _ | show wpAny _ _ (eval (Expr.ListComp _ _ _ _) _) _ _ _ | show wpAny _ _ (exec (Stmt.Assign _ (Expr.ListComp _ _ _ _) _) _) _ _ _)); first | walk1 | (dsimp only; walk1)) | ((with_reducible show Frag.In _ _ ∧ _); (refine ⟨by k_in, ?_⟩); (try dsimp only [List.nil_append, List.cons_append])) | ((with_reducible show (if _ then _ else _)); walk1)))
     refine' KSpl.split1 ?F ?N ?y ?_ ?z
     case F => assumption
     case N => assumption
     case y => decide +kernel
     case z => rw [sizeLine_eq]; omega
     intro D3 l3 h3 kk3 hl3 hs3 F3 N3 hD3
     have hpos := split_pos x2 (Str.ofString "-")
     rw [← hl3, List.length_map] at hpos
     have hparts : l3.length ≤ 302 := by
       have h1 := congrArg List.length hl3
       rw [List.length_map] at h1
       rw [h1]
       exact Nat.le_trans (split_len x2 (Str.ofString "-")) (by omega)
     obtain ⟨q0, qs, rfl⟩ := cons_of hpos
     change News s.heap s.heap.objs.size h3 ((D3, W.listOf (.str q0.1 q0.2 :: strValues qs).toArray 0) :: _) at N3
     repeat' (first | ((with_reducible show ((_ : Nat) ≤ _ → _)); intro htk9; (try dsimp only at htk9); revert htk9; intro _) | ((with_reducible show wpAny _ _ (execs (_ :: _) _) _ _ _); refine execs_hidt (by first | omega | (dsimp only; omega)) ?_; intro _ _ htk9; (try dsimp only at htk9); revert htk9; intro _ Qk9 kH9; (try dsimp only)) | ((with_reducible show wpAny _ _ (execs [] _) _ _ _); refine wpAny_execs_nil ?_; (try dsimp only)) | (first | (k_unfold; (try dsimp only)) | ((with_reducible show wpAny _ _ (execs (_ :: _) _) _ _ _); refine execs_hide ?_; intro Qk9 kH9; (try dsimp only)) | ((with_reducible rename Hid _ _ _ => kH9); first | (refine hid_next kH9 ?_; clear kH9; (try clear Qk9)) | (refine hid_other kH9 (by nofun) ?_; clear kH9; (try clear Qk9)); (try dsimp only)) | ((with_reducible show wpAny _ _ (binaryOp Operator.Add (Value.str _ _) (Value.str _ _)) _ _ _); k_dflt (refine SB.add ?_ (add_fits (by walk_at "m_len") (by walk_at "m_len") (by decide +kernel)); intro _ _; (try dsimp only))) | ((with_reducible show wpAny _ _ (call (Value.builtin "len") [Value.str _ _]) _ _ _); k_dflt (refine len_str_ok (Nat.le_trans (by walk_at "m_len") (by decide +kernel)) ?_; (try dsimp only))) | ((with_reducible show wpAny _ _ (call (Value.builtin "list.append") [Value.ref _, _]) _ _ _); k_dflt (refine append_K (by k_asm) (by k_asm) (by k_upd) ?_ (by refine size_ok ?_; (try simp only [List.size_toArray]); omega); k_whole); intro _ _ _; (try k_sweep)) | ((with_reducible show wpAny _ _ (storeName (compEnvC _ _ _ _) _ _) _ _ _); k_dflt (refine cc_store (by assumption) (by assumption) (by exact rfl) (by exact rfl) ?_); intro _ _ _; (try k_sweep)) | ((with_reducible show wpAny _ _ (eval (Expr.Name _ _) (compEnvC _ _ _ _)) _ _ _); k_dflt (refine cc_load (by assumption) (by exact rfl) ?_ (by exact rfl) (by exact rfl) (by exact rfl))) | ((with_reducible show wpAny _ _ _ _ _ _); (fail_if_success (with_reducible first | show wpAny _ _ (exec (Stmt.For _ _ _ _ _) _) _ _ _ | show wpAny _ _ (exec (Stmt.While _ _ _ _) _) _ _ _ | show wpAny _ _ (pyIter _) _ _ _ | show wpAny _ _ (call (Value.builtin "list.pop") _ _) _ _ _ | show wpAny _ _ (call (Value.builtin "str.join") _ _) _ _ _ | show wpAny _ _ (call (Value.builtin "max") _ _) _ _ _ | show wpAny _ _ (setItem _ _ _) _ _ _ | show wpAny _ _ (call (Value.builtin "str.replace") _ _) _ _ _ | show wpAny _ _ (call (Value.builtin "str.split") _ _) _ _ _ | show wpAny _ _ (call (Value.ref _) _ _) _ _ _ | show wpAny _ _ (eval (Expr.ListComp _ _ _ _) _) _ _ _ | show wpAny _ _ (exec (Stmt.Assign _ (Expr.ListComp _ _ _ _) _) _) _ _ _)); first | walk1 | (dsimp only; walk1)) | ((with_reducible show Frag.In _ _ ∧ _); (refine ⟨by k_in, ?_⟩); (try dsimp only [List.nil_append, List.cons_append])) | ((with_reducible show (if _ then _ else _)); walk1)))
     rename_i D4 h4 F4 N4 _
     refine comp_eval (by exact rfl) (by decide) (by exact rfl) (by decide) ?_
     repeat' (first | (k_unfold; (try dsimp only)) | ((with_reducible show wpAny _ _ (execs (_ :: _) _) _ _ _); refine execs_hide ?_; intro Qk9 kH9; (try dsimp only)) | ((with_reducible rename Hid _ _ _ => kH9); first | (refine hid_next kH9 ?_; clear kH9; (try clear Qk9)) | (refine hid_other kH9 (by nofun) ?_; clear kH9; (try clear Qk9)); (try dsimp only)) | ((with_reducible show wpAny _ _ (binaryOp Operator.Add (Value.str _ _) (Value.str _ _)) _ _ _); k_dflt (refine SB.add ?_ (add_fits (by walk_at "m_len") (by walk_at "m_len") (by decide +kernel)); intro _ _; (try dsimp only))) | ((with_reducible show wpAny _ _ (call (Value.builtin "len") [Value.str _ _]) _ _ _); k_dflt (refine len_str_ok (Nat.le_trans (by walk_at "m_len") (by decide +kernel)) ?_; (try dsimp only))) | ((with_reducible show wpAny _ _ (call (Value.builtin "list.append") [Value.ref _, _]) _ _ _); k_dflt (refine append_K (by k_asm) (by k_asm) (by k_upd) ?_ (by refine size_ok ?_; (try simp only [List.size_toArray]); omega); k_whole); intro _ _ _; (try k_sweep)) | ((with_reducible show wpAny _ _ (storeName (compEnvC _ _ _ _) _ _) _ _ _); k_dflt (refine cc_store (by assumption) (by assumption) (by exact rfl) (by exact rfl) ?_); intro _ _ _; (try k_sweep)) | ((with_reducible show wpAny _ _ (eval (Expr.Name _ _) (compEnvC _ _ _ _)) _ _ _); k_dflt (refine cc_load (by assumption) (by exact rfl) ?_ (by exact rfl) (by exact rfl) (by exact rfl))) | ((with_reducible show wpAny _ _ _ _ _ _); (fail_if_success (with_reducible first | show wpAny _ _ (exec (Stmt.For _ _ _ _ _) _) _ _ _ | show wpAny _ _ (exec (Stmt.While _ _ _ _) _) _ _ _ | show wpAny _ _ (pyIter _) _ _ _ | show wpAny _ _ (call (Value.builtin "list.pop") _ _) _ _ _ | show wpAny _ _ (call (Value.builtin "str.join") _ _) _ _ _ | show wpAny _ _ (call (Value.builtin "max") _ _) _ _ _ | show wpAny _ _ (setItem _ _ _) _ _ _ | show wpAny _ _ (call (Value.builtin "str.replace") _ _) _ _ _ | show wpAny _ _ (call (Value.builtin "str.split") _ _) _ _ _ | show wpAny _ _ (call (Value.ref _) _ _) _ _ _ | show wpAny _ _ (eval (Expr.ListComp _ _ _ _) _) _ _ _ | show wpAny _ _ (exec (Stmt.Assign _ (Expr.ListComp _ _ _ _) _) _) _ _ _)); first | walk1 | (dsimp only; walk1)) | ((with_reducible show Frag.In _ _ ∧ _); (refine ⟨by k_in, ?_⟩); (try dsimp only [List.nil_append, List.cons_append])) | ((with_reducible show (if _ then _ else _)); walk1))
     rename_i h5 F5 N5
     rw [show (some (1 : Int)) = some ((1 : Nat) : Int) from rfl, slicePick_from'] at N5
     change Fr s.heap s.heap.objs.size h5 _ at F5
     change News s.heap s.heap.objs.size h5 ((_, { cls := .type "list", data := .seq (strValues qs).toArray }) :: _) at N5
     refine compi_list (fun i r objs k => ∃ y t, qs[i]? = some (y, t) ∧ objs = [] ∧ r = if y.cps.toList = [] then none else some (.str y t)) hh ⟨_, (N5 _ (.head _)).1, rfl, _, rfl⟩ ?_ ?_ ?_
     · rw [List.size_toArray, strValues_len, sizeLine_eq]
       rw [List.length_cons] at hparts
       omega
     · rintro C i v h tk m₁ olds hi hv htk2 F₁ N₁
       dsimp only at F₁ N₁
       obtain ⟨y, t, hy, rfl⟩ := strValues_at hv
       repeat' (first | (k_unfold; (try dsimp only)) | ((with_reducible show wpAny _ _ (execs (_ :: _) _) _ _ _); refine execs_hide ?_; intro Qk9 kH9; (try dsimp only)) | ((with_reducible rename Hid _ _ _ => kH9); first | (refine hid_next kH9 ?_; clear kH9; (try clear Qk9)) | (refine hid_other kH9 (by nofun) ?_; clear kH9; (try clear Qk9)); (try dsimp only)) | ((with_reducible show wpAny _ _ (binaryOp Operator.Add (Value.str _ _) (Value.str _ _)) _ _ _); k_dflt (refine SB.add ?_ (add_fits (by walk_at "m_len") (by walk_at "m_len") (by decide +kernel)); intro _ _; (try dsimp only))) | ((with_reducible show wpAny _ _ (call (Value.builtin "len") [Value.str _ _]) _ _ _); k_dflt (refine len_str_ok (Nat.le_trans (by walk_at "m_len") (by decide +kernel)) ?_; (try dsimp only))) | ((with_reducible show wpAny _ _ (call (Value.builtin "list.append") [Value.ref _, _]) _ _ _); k_dflt (refine append_K (by k_asm) (by k_asm) (by k_upd) ?_ (by refine size_ok ?_; (try simp only [List.size_toArray]); omega); k_whole); intro _ _ _; (try k_sweep)) | ((with_reducible show wpAny _ _ (storeName (compEnvC _ _ _ _) _ _) _ _ _); k_dflt (refine cc_store (by assumption) (by assumption) (by exact rfl) (by exact rfl) ?_); intro _ _ _; (try k_sweep)) | ((with_reducible show wpAny _ _ (eval (Expr.Name _ _) (compEnvC _ _ _ _)) _ _ _); k_dflt (refine cc_load (by assumption) (by exact rfl) ?_ (by exact rfl) (by exact rfl) (by exact rfl))) | ((with_reducible show wpAny _ _ _ _ _ _); (fail_if_success (with_reducible first | show wpAny _ _ (exec (Stmt.For _ _ _ _ _) _) _ _ _ | show wpAny _ _ (exec (Stmt.While _ _ _ _) _) _ _ _ | show wpAny _ _ (pyIter _) _ _ _ | show wpAny _ _ (call (Value.builtin "list.pop") _ _) _ _ _ | show wpAny _ _ (call (Value.builtin "str.join") _ _) _ _ _ | show wpAny _ _ (call (Value.builtin "max") _ _) _ _ _ | show wpAny _ _ (setItem _ _ _) _ _ _ | show wpAny _ _ (call (Value.builtin "str.replace") _ _) _ _ _ | show wpAny _ _ (call (Value.builtin "str.split") _ _) _ _ _ | show wpAny _ _ (call (Value.ref _) _ _) _ _ _ | show wpAny _ _ (eval (Expr.ListComp _ _ _ _) _) _ _ _ | show wpAny _ _ (exec (Stmt.Assign _ (Expr.ListComp _ _ _ _) _) _) _ _ _)); first | walk1 | (dsimp only; walk1)) | ((with_reducible show Frag.In _ _ ∧ _); (refine ⟨by k_in, ?_⟩); (try dsimp only [List.nil_append, List.cons_append])) | ((with_reducible show (if _ then _ else _)); walk1))
       · rename_i F' N' hne
         exact ⟨_, _, _, [], rfl, F', N', (fun q hq => nomatch hq), y, t, hy, rfl, by rw [if_neg (str_ne hne)]⟩
       · rename_i F' N' hne
         exact ⟨_, _, _, [], rfl, F', N', (fun q hq => nomatch hq), y, t, hy, rfl, by rw [if_pos (str_eq hne)]⟩
     · intro h6 D6 h7 tk7 rs hD hle hlen hEl hlist hst hobj
       dsimp only at hst hlist hle
       have F7 := fr_stays F5 hst
       have N7 := news_stays N5 hst
       have hrs := picked_parts (qs := qs) (rs := rs) (by rw [hlen, List.size_toArray, strValues_len]) fun i r hr => let ⟨_, _, y, t, e1, _, e2⟩ := hEl i r hr; ⟨y, t, e1, e2⟩
       rw [hrs] at hlist
       clear hEl hobj hD F5 N5 F4 N4
       obtain ⟨k6, hk6⟩ := hlist
       repeat' (first | (k_unfold; (try dsimp only)) | ((with_reducible show wpAny _ _ (execs (_ :: _) _) _ _ _); refine execs_hide ?_; intro Qk9 kH9; (try dsimp only)) | ((with_reducible rename Hid _ _ _ => kH9); first | (refine hid_next kH9 ?_; clear kH9; (try clear Qk9)) | (refine hid_other kH9 (by nofun) ?_; clear kH9; (try clear Qk9)); (try dsimp only)) | ((with_reducible show wpAny _ _ (binaryOp Operator.Add (Value.str _ _) (Value.str _ _)) _ _ _); k_dflt (refine SB.add ?_ (add_fits (by walk_at "m_len") (by walk_at "m_len") (by decide +kernel)); intro _ _; (try dsimp only))) | ((with_reducible show wpAny _ _ (call (Value.builtin "len") [Value.str _ _]) _ _ _); k_dflt (refine len_str_ok (Nat.le_trans (by walk_at "m_len") (by decide +kernel)) ?_; (try dsimp only))) | ((with_reducible show wpAny _ _ (call (Value.builtin "list.append") [Value.ref _, _]) _ _ _); k_dflt (refine append_K (by k_asm) (by k_asm) (by k_upd) ?_ (by refine size_ok ?_; (try simp only [List.size_toArray]); omega); k_whole); intro _ _ _; (try k_sweep)) | ((with_reducible show wpAny _ _ (storeName (compEnvC _ _ _ _) _ _) _ _ _); k_dflt (refine cc_store (by assumption) (by assumption) (by exact rfl) (by exact rfl) ?_); intro _ _ _; (try k_sweep)) | ((with_reducible show wpAny _ _ (eval (Expr.Name _ _) (compEnvC _ _ _ _)) _ _ _); k_dflt (refine cc_load (by assumption) (by exact rfl) ?_ (by exact rfl) (by exact rfl) (by exact rfl))) | ((with_reducible show wpAny _ _ _ _ _ _); (fail_if_success (with_reducible first | show wpAny _ _ (exec (Stmt.For _ _ _ _ _) _) _ _ _ | show wpAny _ _ (exec (Stmt.While _ _ _ _) _) _ _ _ | show wpAny _ _ (pyIter _) _ _ _ | show wpAny _ _ (call (Value.builtin "list.pop") _ _) _ _ _ | show wpAny _ _ (call (Value.builtin "str.join") _ _) _ _ _ | show wpAny _ _ (call (Value.builtin "max") _ _) _ _ _ | show wpAny _ _ (setItem _ _ _) _ _ _ | show wpAny _ _ (call (Value.builtin "str.replace") _ _) _ _ _ | show wpAny _ _ (call (Value.builtin "str.split") _ _) _ _ _ | show wpAny _ _ (call (Value.ref _) _ _) _ _ _ | show wpAny _ _ (eval (Expr.ListComp _ _ _ _) _) _ _ _ | show wpAny _ _ (exec (Stmt.Assign _ (Expr.ListComp _ _ _ _) _) _) _ _ _)); first | walk1 | (dsimp only; walk1)) | ((with_reducible show Frag.In _ _ ∧ _); (refine ⟨by k_in, ?_⟩); (try dsimp only [List.nil_append, List.cons_append])) | ((with_reducible show (if _ then _ else _)); walk1))
       refine add_lists (vs := [.str q0.1 q0.2]) (ws := strValues (qs.filter fun p => !p.1.cps.toList.isEmpty)) F7 N7 ⟨_, (N7 (D4, _) (by k_mem)).1, rfl, _, rfl⟩ ⟨_, hk6, rfl, _, rfl⟩ ?_ (hsz := ?_)
       · intro h8 F8 N8
         repeat' (first | (k_unfold; (try dsimp only)) | ((with_reducible show wpAny _ _ (execs (_ :: _) _) _ _ _); refine execs_hide ?_; intro Qk9 kH9; (try dsimp only)) | ((with_reducible rename Hid _ _ _ => kH9); first | (refine hid_next kH9 ?_; clear kH9; (try clear Qk9)) | (refine hid_other kH9 (by nofun) ?_; clear kH9; (try clear Qk9)); (try dsimp only)) | ((with_reducible show wpAny _ _ (binaryOp Operator.Add (Value.str _ _) (Value.str _ _)) _ _ _); k_dflt (refine SB.add ?_ (add_fits (by walk_at "m_len") (by walk_at "m_len") (by decide +kernel)); intro _ _; (try dsimp only))) | ((with_reducible show wpAny _ _ (call (Value.builtin "len") [Value.str _ _]) _ _ _); k_dflt (refine len_str_ok (Nat.le_trans (by walk_at "m_len") (by decide +kernel)) ?_; (try dsimp only))) | ((with_reducible show wpAny _ _ (call (Value.builtin "list.append") [Value.ref _, _]) _ _ _); k_dflt (refine append_K (by k_asm) (by k_asm) (by k_upd) ?_ (by refine size_ok ?_; (try simp only [List.size_toArray]); omega); k_whole); intro _ _ _; (try k_sweep)) | ((with_reducible show wpAny _ _ (storeName (compEnvC _ _ _ _) _ _) _ _ _); k_dflt (refine cc_store (by assumption) (by assumption) (by exact rfl) (by exact rfl) ?_); intro _ _ _; (try k_sweep)) | ((with_reducible show wpAny _ _ (eval (Expr.Name _ _) (compEnvC _ _ _ _)) _ _ _); k_dflt (refine cc_load (by assumption) (by exact rfl) ?_ (by exact rfl) (by exact rfl) (by exact rfl))) | ((with_reducible show wpAny _ _ _ _ _ _); (fail_if_success (with_reducible first | show wpAny _ _ (exec (Stmt.For _ _ _ _ _) _) _ _ _ | show wpAny _ _ (exec (Stmt.While _ _ _ _) _) _ _ _ | show wpAny _ _ (pyIter _) _ _ _ | show wpAny _ _ (call (Value.builtin "list.pop") _ _) _ _ _ | show wpAny _ _ (call (Value.builtin "str.join") _ _) _ _ _ | show wpAny _ _ (call (Value.builtin "max") _ _) _ _ _ | show wpAny _ _ (setItem _ _ _) _ _ _ | show wpAny _ _ (call (Value.builtin "str.replace") _ _) _ _ _ | show wpAny _ _ (call (Value.builtin "str.split") _ _) _ _ _ | show wpAny _ _ (call (Value.ref _) _ _) _ _ _ | show wpAny _ _ (eval (Expr.ListComp _ _ _ _) _) _ _ _ | show wpAny _ _ (exec (Stmt.Assign _ (Expr.ListComp _ _ _ _) _) _) _ _ _)); first | walk1 | (dsimp only; walk1)) | ((with_reducible show Frag.In _ _ ∧ _); (refine ⟨by k_in, ?_⟩); (try dsimp only [List.nil_append, List.cons_append])) | ((with_reducible show (if _ then _ else _)); walk1))
         have hfl := List.length_filter_le (fun p : Str × Tok => !p.1.cps.toList.isEmpty) qs
         rw [List.length_cons] at hparts
         have hsa : StrsAre ([Value.str q0.1 q0.2] ++ strValues (qs.filter fun p : Str × Tok => !p.1.cps.toList.isEmpty)) (q0.1 :: (qs.filter fun p : Str × Tok => !p.1.cps.toList.isEmpty).map (fun p : Str × Tok => p.1)) :=
           StrsAre.cons q0.1 q0.2 (strsAre_of_values (qs.filter fun p : Str × Tok => !p.1.cps.toList.isEmpty))
         refine join_strs 300 ⟨_, (N8 _ (.head _)).1, rfl, _, rfl⟩ hsa ?_ ?_ ?_
         · intro y hy
           refine Nat.le_trans (part_short (x := x2) (y := Str.ofString "-") ?_) hx2l
           rw [← hl3, List.map_cons]
           rcases List.mem_cons.mp hy with rfl | hy
           · exact .head _
           · obtain ⟨q, hq, rfl⟩ := List.mem_map.mp hy
             exact .tail _ (List.mem_map.mpr ⟨q, (List.mem_filter.mp hq).1, rfl⟩)
         · have e1 : (Str.ofString "-").length = 1 := by decide +kernel
           rw [e1, List.length_cons, List.length_map]
           omega
         intro t9 k9
         repeat' (first | ((with_reducible show ((_ : Nat) ≤ _ → _)); intro htk9; (try dsimp only at htk9); revert htk9; intro _) | ((with_reducible show wpAny _ _ (execs (_ :: _) _) _ _ _); refine execs_hidt (by first | omega | (dsimp only; omega)) ?_; intro _ _ htk9; (try dsimp only at htk9); revert htk9; intro _ Qk9 kH9; (try dsimp only)) | ((with_reducible show wpAny _ _ (execs [] _) _ _ _); refine wpAny_execs_nil ?_; (try dsimp only)) | (first | (k_unfold; (try dsimp only)) | ((with_reducible show wpAny _ _ (execs (_ :: _) _) _ _ _); refine execs_hide ?_; intro Qk9 kH9; (try dsimp only)) | ((with_reducible rename Hid _ _ _ => kH9); first | (refine hid_next kH9 ?_; clear kH9; (try clear Qk9)) | (refine hid_other kH9 (by nofun) ?_; clear kH9; (try clear Qk9)); (try dsimp only)) | ((with_reducible show wpAny _ _ (binaryOp Operator.Add (Value.str _ _) (Value.str _ _)) _ _ _); k_dflt (refine SB.add ?_ (add_fits (by walk_at "m_len") (by walk_at "m_len") (by decide +kernel)); intro _ _; (try dsimp only))) | ((with_reducible show wpAny _ _ (call (Value.builtin "len") [Value.str _ _]) _ _ _); k_dflt (refine len_str_ok (Nat.le_trans (by walk_at "m_len") (by decide +kernel)) ?_; (try dsimp only))) | ((with_reducible show wpAny _ _ (call (Value.builtin "list.append") [Value.ref _, _]) _ _ _); k_dflt (refine append_K (by k_asm) (by k_asm) (by k_upd) ?_ (by refine size_ok ?_; (try simp only [List.size_toArray]); omega); k_whole); intro _ _ _; (try k_sweep)) | ((with_reducible show wpAny _ _ (storeName (compEnvC _ _ _ _) _ _) _ _ _); k_dflt (refine cc_store (by assumption) (by assumption) (by exact rfl) (by exact rfl) ?_); intro _ _ _; (try k_sweep)) | ((with_reducible show wpAny _ _ (eval (Expr.Name _ _) (compEnvC _ _ _ _)) _ _ _); k_dflt (refine cc_load (by assumption) (by exact rfl) ?_ (by exact rfl) (by exact rfl) (by exact rfl))) | ((with_reducible show wpAny _ _ _ _ _ _); (fail_if_success (with_reducible first | show wpAny _ _ (exec (Stmt.For _ _ _ _ _) _) _ _ _ | show wpAny _ _ (exec (Stmt.While _ _ _ _) _) _ _ _ | show wpAny _ _ (pyIter _) _ _ _ | show wpAny _ _ (call (Value.builtin "list.pop") _ _) _ _ _ | show wpAny _ _ (call (Value.builtin "str.join") _ _) _ _ _ | show wpAny _ _ (call (Value.builtin "max") _ _) _ _ _ | show wpAny _ _ (setItem _ _ _) _ _ _ | show wpAny _ _ (call (Value.builtin "str.replace") _ _) _ _ _ | show wpAny _ _ (call (Value.builtin "str.split") _ _) _ _ _ | show wpAny _ _ (call (Value.ref _) _ _) _ _ _ | show wpAny _ _ (eval (Expr.ListComp _ _ _ _) _) _ _ _ | show wpAny _ _ (exec (Stmt.Assign _ (Expr.ListComp _ _ _ _) _) _) _ _ _)); first | walk1 | (dsimp only; walk1)) | ((with_reducible show Frag.In _ _ ∧ _); (refine ⟨by k_in, ?_⟩); (try dsimp only [List.nil_append, List.cons_append])) | ((with_reducible show (if _ then _ else _)); walk1)))
         refine hR _ _ _ _ F8.keep ?_
         rw [name_plain hl3, hx2, hx1, List.map_map]
         congr 1
         refine List.map_congr_left fun c _ => ?_
         unfold fm
         simp only [Function.comp]
         by_cases h42 : c = 42
         · rw [if_pos h42, if_neg hma.2, if_pos h42]
         · rw [if_neg h42, if_neg h42]
       · have hfl := List.length_filter_le (fun p : Str × Tok => !p.1.cps.toList.isEmpty) qs
         rw [List.length_cons] at hparts
         rw [strValues_len, sizeLine_eq, List.length_singleton]
         omega)
end
end Part_name

section Part_rnd
section
def tupObj (a b : Int) (t u : Tok) : Obj := { cls := .type "tuple", data := .seq #[.int a t, .int b u] }
/-- a list of pairs, each one of these objects -/
inductive PairsIn (tups : List (Addr × Obj)) : List Value → List (Nat × Nat) → Prop
  | nil : PairsIn tups [] []
  | cons {a : Addr} {p g : Nat} {t u : Tok} {vs : List Value} {ps : List (Nat × Nat)} (h : (a, tupObj (p : Nat) (g : Nat) t u) ∈ tups) (r : PairsIn tups vs ps) : PairsIn tups (.ref a :: vs) ((p, g) :: ps)
theorem pairs_len {tups : List (Addr × Obj)} : ∀ {vs : List Value} {ps : List (Nat × Nat)}, PairsIn tups vs ps → vs.length = ps.length
  | _, _, .nil => rfl
  | _, _, .cons _ r => by rw [List.length_cons, List.length_cons, pairs_len r]
theorem pairs_mono {t t' : List (Addr × Obj)} (h : ∀ x ∈ t, x ∈ t') : ∀ {vs : List Value} {ps : List (Nat × Nat)}, PairsIn t vs ps → PairsIn t' vs ps
  | _, _, .nil => .nil
  | _, _, .cons m r => .cons (h _ m) (pairs_mono h r)
theorem pairs_snoc {t : List (Addr × Obj)} {a : Addr} {p g : Nat} {tp tg : Tok} (m : (a, tupObj (p : Nat) (g : Nat) tp tg) ∈ t) : ∀ {vs : List Value} {ps : List (Nat × Nat)}, PairsIn t vs ps → PairsIn t (vs ++ [.ref a]) (ps ++ [(p, g)])
  | _, _, .nil => .cons m .nil
  | _, _, .cons h r => .cons h (pairs_snoc m r)
theorem pairs_drop {t : List (Addr × Obj)} : ∀ (k : Nat) {vs : List Value} {ps : List (Nat × Nat)}, PairsIn t vs ps → PairsIn t (vs.drop k) (ps.drop k)
  | 0, _, _, h => h
  | _ + 1, _, _, .nil => .nil
  | k + 1, _, _, .cons _ r => pairs_drop k r
theorem pairs_take {t : List (Addr × Obj)} : ∀ (k : Nat) {vs : List Value} {ps : List (Nat × Nat)}, PairsIn t vs ps → PairsIn t (vs.take k) (ps.take k)
  | 0, _, _, _ => .nil
  | _ + 1, _, _, .nil => .nil
  | k + 1, _, _, .cons h r => .cons h (pairs_take k r)
theorem pairs_last {t : List (Addr × Obj)} {vs : List Value} {ps : List (Nat × Nat)} (h : PairsIn t vs ps) : PairsIn t (lastL 7 vs) (lastL 7 ps) := by
  unfold lastL
  rw [pairs_len h]
  exact pairs_drop _ h
theorem pairs_but {t : List (Addr × Obj)} {vs : List Value} {ps : List (Nat × Nat)} (h : PairsIn t vs ps) : PairsIn t (butL 7 vs) (butL 7 ps) := by
  unfold butL
  rw [pairs_len h]
  exact pairs_take _ h
theorem pairs_at {t : List (Addr × Obj)} : ∀ {vs : List Value} {ps : List (Nat × Nat)} {i : Nat} {v : Value}, PairsIn t vs ps → vs.toArray[i]? = some v →
    ∃ (a : Addr) (p g : Nat) (tp tg : Tok), ps[i]? = some (p, g) ∧ v = .ref a ∧ (a, tupObj (p : Nat) (g : Nat) tp tg) ∈ t
  | _, _, i, v, .nil, h => by simp at h
  | _, _, 0, v, .cons (a := a) (p := p) (g := g) (t := tp) (u := tg) m r, h => by
    simp at h
    exact ⟨a, p, g, tp, tg, rfl, h.symm, m⟩
  | _, _, i + 1, v, .cons m r, h => by
    have := pairs_at (i := i) (v := v) r (by simpa using h)
    simpa using this
theorem mem_led {x a b c d e f : Addr × Obj} {l : List (Addr × Obj)} (h : x ∈ c :: l) : x ∈ a :: b :: c :: d :: e :: f :: l := by
  rcases List.mem_cons.mp h with rfl | h
  · simp
  · simp [h]
theorem picked_ints : ∀ {ps : List (Nat × Nat)} {rs : List (Option Value × List (Addr × Obj))}, rs.length = ps.length →
    (∀ (i : Nat) (r : Option Value × List (Addr × Obj)), rs[i]? = some r → ∃ (p g : Nat) (t : Tok), ps[i]? = some (p, g) ∧ r.1 = some (.int (g : Nat) t)) →
    IntsAre (rs.filterMap (·.1)) (asInts (ps.map (·.2)))
  | [], [], _, _ => .nil
  | [], _ :: _, h, _ => by simp at h
  | _ :: _, [], h, _ => by simp at h
  | q :: qs, r :: rs, h, hr => by
    obtain ⟨y, g, t, e1, e2⟩ := hr 0 r rfl
    have e3 : q = (y, g) := Option.some.inj e1
    have ih := picked_ints (ps := qs) (rs := rs) (by simpa using h) fun i r' hi => hr (i + 1) r' hi
    subst e3
    rw [List.filterMap_cons, e2]
    exact .cons _ _ ih
theorem maxL_ge : ∀ (l : List Nat) (m : Nat), m ≤ l.foldl max m ∧ ∀ x ∈ l, x ≤ l.foldl max m
  | [], m => ⟨Nat.le_refl _, fun x h => nomatch h⟩
  | y :: r, m => by
    have h := maxL_ge r (max m y)
    rw [List.foldl_cons]
    refine ⟨by omega, fun x hx => ?_⟩
    rcases List.mem_cons.mp hx with rfl | hx
    · omega
    · exact h.2 x hx
theorem maxL_le : ∀ (l : List Nat) (m b : Nat), m ≤ b → (∀ x ∈ l, x ≤ b) → l.foldl max m ≤ b
  | [], _, _, h, _ => h
  | y :: r, m, b, h, hx => by
    rw [List.foldl_cons]
    have := hx y (.head _)
    exact maxL_le r _ b (by omega) fun x h => hx x (.tail _ h)
theorem max_cast {l : List Nat} {M : Int} (h1 : M ∈ asInts l) (h2 : ∀ a, a ∈ asInts l → a ≤ M) : M = ((maxL l : Nat) : Int) := by
  unfold asInts at h1 h2
  obtain ⟨x, hx, rfl⟩ := List.mem_map.mp h1
  have h3 := (maxL_ge l 0).2 x hx
  have h4 := maxL_le l 0 x (Nat.zero_le _) fun y hy => by
    have := h2 _ (List.mem_map.mpr ⟨y, hy, rfl⟩)
    omega
  unfold maxL
  omega
theorem setAll_len (N : Nat) : ∀ (top : List (Nat × Nat)) (rs : List Nat), (setAll N rs top).length = rs.length
  | [], _ => rfl
  | q :: r, rs => by
    show (setAll N (rs.set q.1 N) r).length = _
    rw [setAll_len N r, List.length_set]
theorem setAll_snoc (N : Nat) (rs : List Nat) (top : List (Nat × Nat)) (q : Nat × Nat) : setAll N rs (top ++ [q]) = (setAll N rs top).set q.1 N := by
  unfold setAll; rw [List.foldl_append]; rfl
theorem ints_set : ∀ {vs : List Value} {ns : List Nat} {q n : Nat} {t : Tok}, IntsAre vs (asInts ns) → IntsAre (vs.set q (.int (n : Nat) t)) (asInts (ns.set q n))
  | [], [], _, _, _, h => h
  | [], _ :: _, _, _, _, h => nomatch h
  | _ :: _, [], _, _, _, h => nomatch h
  | _ :: _, _ :: _, 0, _, _, .cons _ _ r => .cons _ _ r
  | _ :: _, _ :: _, _ + 1, _, _, .cons _ _ r => .cons _ _ (ints_set r)
theorem all_of_lt {d : Addr} : ∀ {l : List (Addr × Obj)}, AllLt d l → ∀ q ∈ l, (q.1 : Nat) < d
  | [], _, _, h => nomatch h
  | _ :: _, h, q, hq => by
    rcases List.mem_cons.mp hq with rfl | hq
    · exact h.1
    · exact all_of_lt h.2 q hq
theorem slice_last (x : Str) : (Txt.slice x (some (-7)) none).cps.toList = lastL 7 x.cps.toList := by
  rw [slice_list]
  have e : loI x.length (some (-7)) = x.length - 7 := by show clipI _ _ = _; unfold clipI; rw [if_pos (by decide)]; omega
  rw [e]
  unfold lastL
  rw [len_list]
  exact List.take_of_length_le (by rw [List.length_drop]; show _ ≤ x.length - _; rw [len_list]; exact Nat.le_refl _)
theorem slice_but (x : Str) : (Txt.slice x none (some (-7))).cps.toList = butL 7 x.cps.toList := by
  rw [slice_list]
  have e : hiI x.length (some (-7)) = x.length - 7 := by show clipI _ _ = _; unfold clipI; rw [if_pos (by decide)]; omega
  rw [e]
  unfold butL
  rw [len_list]
  rfl
theorem unk_lit : (Str.ofString "unknown").cps.toList = unk := by decide +kernel
theorem unk_ne {x : Str} (h : (x == Str.ofString "unknown") = false) : ¬ x.cps.toList = unk := by
  intro e
  have h2 : x = Str.ofString "unknown" := str_ext (by rw [e, unk_lit])
  rw [h2] at h
  simp at h
theorem unk_eq {x : Str} (h : (x == Str.ofString "unknown") = true) : x.cps.toList = unk := by
  rw [eq_of_beq h, unk_lit]
local macro_rules | `(tactic| k_all) => `(tactic| assumption)
variable {w : World} {A : Around} {s : Shared} {R : Result → Shared → Prop} {p : Program} {loose : List Str} {mg mb : Str → Option Value}
set_option maxHeartbeats 8000000 in
theorem rounds_call {row : Str} {tr : Tok} (X : (hk.heap_1 w.params).In s.heap) (T : TopRead p loose mg mb s.heap) (hA : A.depth < 600) (hU : A.units + 100 < cLine) (hh : A.handled = none)
  (hl : row.length ≤ 300)
  (hR : ∀ h' tk a vs k, Stays s.heap h' → s.heap.get? a = none → h'.get? a = some (W.listOf vs.toArray k) → IntsAre vs (asInts (rrun row.cps.toList row.length).rounds) → R (.ok (.ret (.ref a))) { s with heap := h', toks := tk }) :
  codeAny (model lw.row.prog w) A (.call (.ref 98) ⟨[.str row tr], []⟩) R s := by
  revert X
  k_fill
  intro X
  w_strict (
   w_top off
   refine' callOwn (binds := [(Str.ofString "row", .str row tr)]) ?k1 ?k2 ?k3 ?k4 ?k5 ?k6 ?k7 ?_ ?c1 ?c2 ?c3 ?c4
   (case k1 => exact X)
   (case k2 => exact T.nolimit)
   (case k3 => k_is)
   (case k4 => k_is)
   (case k5 => show A.depth < 1000; omega)
   (case k6 => exact BindsTo.of_eq rfl)
   (case k7 => exact locs rfl)
   (case c1 => exact rfl)
   (case c2 => exact rfl)
   (case c3 => exact rfl)
   (case c4 => decide)
   intro h₁ F
   have N : News s.heap s.heap.objs.size h₁ [] := News.nil
   (try dsimp only); (try k_fold)
   repeat' (first | (k_unfold; (try dsimp only)) | ((with_reducible show wpAny _ _ (execs (_ :: _) _) _ _ _); refine execs_hide ?_; intro Qk9 kH9; (try dsimp only)) | ((with_reducible rename Hid _ _ _ => kH9); first | (refine hid_next kH9 ?_; clear kH9; (try clear Qk9)) | (refine hid_other kH9 (by nofun) ?_; clear kH9; (try clear Qk9)); (try dsimp only)) | ((with_reducible show wpAny _ _ (subscriptTail _ (PySem.Expr.Slice _ _ none _) (Value.ref _) (Value.ref _)) _ _ _); k_dflt (refine' kmk_slice (by k_asm) (by k_asm) (by kmk_list) (by kmk_part) (by kmk_part) ?_ (by with_unfolding_all rfl) (by kmk_pure) (by refine size_ok ?_; (try simp only [List.size_toArray, Array.size_push, List.length_append, List.length_cons, List.length_nil]); omega)); intro _ _ _ _ l1'; (try k_lt l1'); (try (revert l1'; intro _)); (try k_sweep)) | ((with_reducible show wpAny _ _ (subscriptTail _ _ (Value.ref _) (Value.int _ _)) _ _ _); k_dflt (first | refine list_item (by k_asm) (by k_mem) (by decide) (by decide) (by assumption) ?_ (by with_unfolding_all rfl) | refine item_tupleT (by assumption) (by decide) (by decide) (by rfl) (by rfl) ?_)) | ((with_reducible show wpAny _ _ (binaryOp Operator.Add (Value.str _ _) (Value.str _ _)) _ _ _); k_dflt (refine SB.add ?_ (add_fits (by walk_at "m_len") (by walk_at "m_len") (by decide +kernel)); intro _ _; (try dsimp only))) | ((with_reducible show wpAny _ _ (call (Value.builtin "len") [Value.str _ _]) _ _ _); k_dflt (refine len_str_ok (Nat.le_trans (by walk_at "m_len") (by decide +kernel)) ?_; (try dsimp only))) | ((with_reducible show wpAny _ _ (call (Value.builtin "list.append") [Value.ref _, _]) _ _ _); k_dflt (refine append_K (by k_asm) (by k_asm) (by k_upd) ?_ (by refine size_ok ?_; (try simp only [List.size_toArray]); omega); k_whole); intro _ _ _; (try k_sweep)) | ((with_reducible show wpAny _ _ (storeName (compEnvC _ _ _ _) _ _) _ _ _); k_dflt (refine cc_store (by assumption) (by assumption) (by exact rfl) (by exact rfl) ?_); intro _ _ _; (try k_sweep)) | ((with_reducible show wpAny _ _ (eval (Expr.Name _ _) (compEnvC _ _ _ _)) _ _ _); k_dflt (refine cc_load (by assumption) (by exact rfl) ?_ (by exact rfl) (by exact rfl) (by exact rfl))) | ((with_reducible show wpAny _ _ _ _ _ _); (fail_if_success (with_reducible first | show wpAny _ _ (exec (Stmt.For _ _ _ _ _) _) _ _ _ | show wpAny _ _ (exec (Stmt.While _ _ _ _) _) _ _ _ | show wpAny _ _ (pyIter _) _ _ _ | show wpAny _ _ (call (Value.builtin "list.pop") _ _) _ _ _ | show wpAny _ _ (call (Value.builtin "str.join") _ _) _ _ _ | show wpAny _ _ (call (Value.builtin "max") _ _) _ _ _ | show wpAny _ _ (setItem _ _ _) _ _ _ | show wpAny _ _ (call (Value.builtin "str.replace") _ _) _ _ _ | show wpAny _ _ (call (Value.builtin "str.split") _ _) _ _ _ | show wpAny _ _ (call (Value.ref _) _ _) _ _ _ | show wpAny _ _ (eval (Expr.ListComp _ _ _ _) _) _ _ _ | show wpAny _ _ (exec (Stmt.Assign _ (Expr.ListComp _ _ _ _) _) _) _ _ _)); first | walk1 | (dsimp only; walk1)) | ((with_reducible show Frag.In _ _ ∧ _); (refine ⟨by k_in, ?_⟩); (try dsimp only [List.nil_append, List.cons_append])) | ((with_reducible show (if _ then _ else _)); walk1))
   rename_i al _ _ ar _ hri _ _ _ _ _ _ _ ap _ hap _ _ h0 F0 N0
   have hra : IntsAre (List.replicate (row.length : Int).toNat [Value.int 0 (s.toks + [(Str.ofString "row", Value.str row tr)].length)]).flatten (asInts (rrun row.cps.toList 0).rounds) := by
     have e : (List.replicate (row.length : Int).toNat [(0 : Int)]).flatten = asInts (List.replicate row.length 0) := by
       rw [Int.toNat_natCast]
       unfold asInts
       rw [List.map_replicate]
       generalize row.length = n
       induction n with
       | zero => rfl
       | succ n ih => rw [List.replicate_succ, List.flatten_cons, ih, List.replicate_succ]; rfl
     rw [e] at hri
     rw [len_list] at hri ⊢
     exact hri
   replace N0 := kst_newsOf (l' := [(ap, W.listOf #[] 0), (ar, W.listOf (List.replicate (row.length : Int).toNat [Value.int 0 (s.toks + [(Str.ofString "row", Value.str row tr)].length)]).flatten.toArray 0)]) N0 (by kst_allIn)
   refine for_inv (h₀ := s.heap) ?_
   repeat' (first | (k_unfold; (try dsimp only)) | ((with_reducible show wpAny _ _ (execs (_ :: _) _) _ _ _); refine execs_hide ?_; intro Qk9 kH9; (try dsimp only)) | ((with_reducible rename Hid _ _ _ => kH9); first | (refine hid_next kH9 ?_; clear kH9; (try clear Qk9)) | (refine hid_other kH9 (by nofun) ?_; clear kH9; (try clear Qk9)); (try dsimp only)) | ((with_reducible show wpAny _ _ (subscriptTail _ (PySem.Expr.Slice _ _ none _) (Value.ref _) (Value.ref _)) _ _ _); k_dflt (refine' kmk_slice (by k_asm) (by k_asm) (by kmk_list) (by kmk_part) (by kmk_part) ?_ (by with_unfolding_all rfl) (by kmk_pure) (by refine size_ok ?_; (try simp only [List.size_toArray, Array.size_push, List.length_append, List.length_cons, List.length_nil]); omega)); intro _ _ _ _ l1'; (try k_lt l1'); (try (revert l1'; intro _)); (try k_sweep)) | ((with_reducible show wpAny _ _ (subscriptTail _ _ (Value.ref _) (Value.int _ _)) _ _ _); k_dflt (first | refine list_item (by k_asm) (by k_mem) (by decide) (by decide) (by assumption) ?_ (by with_unfolding_all rfl) | refine item_tupleT (by assumption) (by decide) (by decide) (by rfl) (by rfl) ?_)) | ((with_reducible show wpAny _ _ (binaryOp Operator.Add (Value.str _ _) (Value.str _ _)) _ _ _); k_dflt (refine SB.add ?_ (add_fits (by walk_at "m_len") (by walk_at "m_len") (by decide +kernel)); intro _ _; (try dsimp only))) | ((with_reducible show wpAny _ _ (call (Value.builtin "len") [Value.str _ _]) _ _ _); k_dflt (refine len_str_ok (Nat.le_trans (by walk_at "m_len") (by decide +kernel)) ?_; (try dsimp only))) | ((with_reducible show wpAny _ _ (call (Value.builtin "list.append") [Value.ref _, _]) _ _ _); k_dflt (refine append_K (by k_asm) (by k_asm) (by k_upd) ?_ (by refine size_ok ?_; (try simp only [List.size_toArray]); omega); k_whole); intro _ _ _; (try k_sweep)) | ((with_reducible show wpAny _ _ (storeName (compEnvC _ _ _ _) _ _) _ _ _); k_dflt (refine cc_store (by assumption) (by assumption) (by exact rfl) (by exact rfl) ?_); intro _ _ _; (try k_sweep)) | ((with_reducible show wpAny _ _ (eval (Expr.Name _ _) (compEnvC _ _ _ _)) _ _ _); k_dflt (refine cc_load (by assumption) (by exact rfl) ?_ (by exact rfl) (by exact rfl) (by exact rfl))) | ((with_reducible show wpAny _ _ _ _ _ _); (fail_if_success (with_reducible first | show wpAny _ _ (exec (Stmt.For _ _ _ _ _) _) _ _ _ | show wpAny _ _ (exec (Stmt.While _ _ _ _) _) _ _ _ | show wpAny _ _ (pyIter _) _ _ _ | show wpAny _ _ (call (Value.builtin "list.pop") _ _) _ _ _ | show wpAny _ _ (call (Value.builtin "str.join") _ _) _ _ _ | show wpAny _ _ (call (Value.builtin "max") _ _) _ _ _ | show wpAny _ _ (setItem _ _ _) _ _ _ | show wpAny _ _ (call (Value.builtin "str.replace") _ _) _ _ _ | show wpAny _ _ (call (Value.builtin "str.split") _ _) _ _ _ | show wpAny _ _ (call (Value.ref _) _ _) _ _ _ | show wpAny _ _ (eval (Expr.ListComp _ _ _ _) _) _ _ _ | show wpAny _ _ (exec (Stmt.Assign _ (Expr.ListComp _ _ _ _) _) _) _ _ _)); first | walk1 | (dsimp only; walk1)) | ((with_reducible show Frag.In _ _ ∧ _); (refine ⟨by k_in, ?_⟩); (try dsimp only [List.nil_append, List.cons_append])) | ((with_reducible show (if _ then _ else _)); walk1))
   rename_i _ _ t1 u1 v1 hrg F1 N1 _
   dsimp only at hrg
   have hneq : ap ≠ ar := neN (by have := hap.1; omega)
   refine iter_range (n := row.length) (fun i g m₁ news₁ => ∃ ap sn tsn tg rvs rk pvs pk tups, (∀ q ∈ [(Str.ofString "row", Value.str row tr), (Str.ofString "rounds", .ref ar), (Str.ofString "pile", .ref ap), (Str.ofString "seen", .str sn tsn), (Str.ofString "gap", .int ((rrun row.cps.toList i).gap : Nat) tg)], m₁ q.1 = some q.2) ∧
     news₁ = (ap, W.listOf pvs.toArray pk) :: (ar, W.listOf rvs.toArray rk) :: tups ∧ IntsAre rvs (asInts (rrun row.cps.toList i).rounds) ∧ PairsIn tups pvs (rrun row.cps.toList i).pile ∧ sn.cps.toList = (rrun row.cps.toList i).seen ∧
     (∀ p ∈ tups, p.1 ≠ ap) ∧ (∀ p ∈ tups, p.1 ≠ ar) ∧ ap ≠ ar ∧ g = s.gens) hh hrg ?_ ?_ F1 N1 ?_ ?_ ?_
   · refine range_small (by decide) ?_ ?_ (by decide) <;> omega
   · unfold Builtin.Range.rangeSize; rw [if_pos (by decide)]; split <;> omega
   · exact ⟨ap, _, _, _, _, _, [], 0, [], by kst_all, rfl, hra, .nil, empty_list, (fun p hp => nomatch hp), (fun p hp => nomatch hp), hneq, rfl⟩
   · rintro I i v m₁ news₁ g h tk oI hin ⟨ti, rfl⟩ ⟨ap, sn, tsn, tg, rvs, rk, pvs, pk, tups, hm, rfl, hri, hpi, hsn, hap, har, hne, rfl⟩ hoff htk F₁ N₁
     have hrb := run_bounds row.cps.toList i (by rw [← len_list]; omega)
     replace F₁ := fr_kst _ F₁ hm
     simp only [kstB] at F₁
     change Fr s.heap s.heap.objs.size h _ at F₁
     change News s.heap s.heap.objs.size h _ at N₁
     have hoff1 := neN (hoff _ (.head _))
     have hoff2 := neN (hoff _ (.tail _ (.head _)))
     have hoff3 : ∀ p ∈ tups, p.1 ≠ I := fun p hp => hoff p (.tail _ (.tail _ hp))
     dsimp only at hoff1 hoff2
     replace hne := neN hne
     clear hm F1 N1
     rw [show (0 + (i : Int) * 1) = ((i : Nat) : Int) by omega]
     have hpl : pvs.length ≤ 300 := by rw [pairs_len hpi]; have := hrb.1; have := hrb.2.1; omega
     have hsnl : sn.length ≤ 300 := by rw [len_list, hsn]; have := hrb.1; omega
     have hlr : i < row.cps.toList.length := by rw [← len_list]; exact hin
     have hit := item_list (x := row) (i := i) (c := row.cps.toList.getD i 0) (by rw [List.getD_eq_getElem?_getD, List.getElem?_eq_getElem hlr]; rfl)
     have hsc : (sn ++ Txt.item row (i : Int)).cps.toList = (rrun row.cps.toList i).seen ++ [row.cps.toList.getD i 0] := by rw [cps_add, hsn, hit]
     have hlast := slice_last (sn ++ Txt.item row (i : Int))
     have hbut := slice_but (sn ++ Txt.item row (i : Int))
     rw [hsc] at hlast hbut
     (try k_fold)
     repeat' (first | (k_unfold; (try dsimp only)) | ((with_reducible show wpAny _ _ (execs (_ :: _) _) _ _ _); refine execs_hide ?_; intro Qk9 kH9; (try dsimp only)) | ((with_reducible rename Hid _ _ _ => kH9); first | (refine hid_next kH9 ?_; clear kH9; (try clear Qk9)) | (refine hid_other kH9 (by nofun) ?_; clear kH9; (try clear Qk9)); (try dsimp only)) | ((with_reducible show wpAny _ _ (subscriptTail _ (PySem.Expr.Slice _ _ none _) (Value.ref _) (Value.ref _)) _ _ _); k_dflt (refine' kmk_slice (by k_asm) (by k_asm) (by kmk_list) (by kmk_part) (by kmk_part) ?_ (by with_unfolding_all rfl) (by kmk_pure) (by refine size_ok ?_; (try simp only [List.size_toArray, Array.size_push, List.length_append, List.length_cons, List.length_nil]); omega)); intro _ _ _ _ l1'; (try k_lt l1'); (try (revert l1'; intro _)); (try k_sweep)) | ((with_reducible show wpAny _ _ (subscriptTail _ _ (Value.ref _) (Value.int _ _)) _ _ _); k_dflt (first | refine list_item (by k_asm) (by k_mem) (by decide) (by decide) (by assumption) ?_ (by with_unfolding_all rfl) | refine item_tupleT (by assumption) (by decide) (by decide) (by rfl) (by rfl) ?_)) | ((with_reducible show wpAny _ _ (binaryOp Operator.Add (Value.str _ _) (Value.str _ _)) _ _ _); k_dflt (refine SB.add ?_ (add_fits (by walk_at "m_len") (by walk_at "m_len") (by decide +kernel)); intro _ _; (try dsimp only))) | ((with_reducible show wpAny _ _ (call (Value.builtin "len") [Value.str _ _]) _ _ _); k_dflt (refine len_str_ok (Nat.le_trans (by walk_at "m_len") (by decide +kernel)) ?_; (try dsimp only))) | ((with_reducible show wpAny _ _ (call (Value.builtin "list.append") [Value.ref _, _]) _ _ _); k_dflt (refine append_K (by k_asm) (by k_asm) (by k_upd) ?_ (by refine size_ok ?_; (try simp only [List.size_toArray]); omega); k_whole); intro _ _ _; (try k_sweep)) | ((with_reducible show wpAny _ _ (storeName (compEnvC _ _ _ _) _ _) _ _ _); k_dflt (refine cc_store (by assumption) (by assumption) (by exact rfl) (by exact rfl) ?_); intro _ _ _; (try k_sweep)) | ((with_reducible show wpAny _ _ (eval (Expr.Name _ _) (compEnvC _ _ _ _)) _ _ _); k_dflt (refine cc_load (by assumption) (by exact rfl) ?_ (by exact rfl) (by exact rfl) (by exact rfl))) | ((with_reducible show wpAny _ _ _ _ _ _); (fail_if_success (with_reducible first | show wpAny _ _ (exec (Stmt.For _ _ _ _ _) _) _ _ _ | show wpAny _ _ (exec (Stmt.While _ _ _ _) _) _ _ _ | show wpAny _ _ (pyIter _) _ _ _ | show wpAny _ _ (call (Value.builtin "list.pop") _ _) _ _ _ | show wpAny _ _ (call (Value.builtin "str.join") _ _) _ _ _ | show wpAny _ _ (call (Value.builtin "max") _ _) _ _ _ | show wpAny _ _ (setItem _ _ _) _ _ _ | show wpAny _ _ (call (Value.builtin "str.replace") _ _) _ _ _ | show wpAny _ _ (call (Value.builtin "str.split") _ _) _ _ _ | show wpAny _ _ (call (Value.ref _) _ _) _ _ _ | show wpAny _ _ (eval (Expr.ListComp _ _ _ _) _) _ _ _ | show wpAny _ _ (exec (Stmt.Assign _ (Expr.ListComp _ _ _ _) _) _) _ _ _)); first | walk1 | (dsimp only; walk1)) | ((with_reducible show Frag.In _ _ ∧ _); (refine ⟨by k_in, ?_⟩); (try dsimp only [List.nil_append, List.cons_append])) | ((with_reducible show (if _ then _ else _)); walk1))
     · rename_i D' _ hD' _ _ _ _ _ _ _ _ _ _ _ _ heq Dt _ hDt h4 F4 N4
       have hpi' : PairsIn ((D', tupObj (i : Nat) ((rrun row.cps.toList i).gap : Nat) ti tg) :: tups) (pvs ++ [Value.ref D']) ((rrun row.cps.toList i).pile ++ [(i, (rrun row.cps.toList i).gap)]) :=
         pairs_snoc (.head _) (pairs_mono (fun x hx => .tail _ hx) hpi)
       have hseen7 : lastL 7 ((rrun row.cps.toList i).seen ++ [row.cps.toList.getD i 0]) = unk := by rw [← hlast]; exact unk_eq heq
       have hstep : rrun row.cps.toList (i + 1) = rstep (rrun row.cps.toList i) i (row.cps.toList.getD i 0) := rfl
       unfold rstep at hstep
       rw [if_pos hseen7] at hstep
       rw [List.push_toArray] at N4
       rw [show (some (-7 : Int)) = some (-((7 : Nat) : Int)) from rfl, slicePick_last _ 7 (by decide)] at N4
       have hge : 7 ≤ (pvs ++ [Value.ref D']).length := by
         have h7 := congrArg List.length hseen7
         unfold lastL at h7
         rw [List.length_drop, unk_len, List.length_append, List.length_singleton] at h7
         rw [pairs_len hpi', List.length_append, List.length_singleton, hrb.2.1]
         omega
       have htop := pairs_last hpi'
       have htl : (lastL 7 (pvs ++ [Value.ref D'])).length = 7 := by unfold lastL; rw [List.length_drop]; omega
       have hptl := pairs_len htop
       rw [htl] at hptl
       change News s.heap s.heap.objs.size h4 ((Dt, W.listOf (lastL 7 (pvs ++ [Value.ref D'])).toArray 0) :: (D', tupObj (i : Nat) ((rrun row.cps.toList i).gap : Nat) ti tg) :: _) at N4
       generalize lastL 7 (pvs ++ [Value.ref D']) = tv at N4 htop htl
       generalize hpp : lastL 7 ((rrun row.cps.toList i).pile ++ [(i, (rrun row.cps.toList i).gap)]) = pp at hstep htop hptl
       refine comp_eval (by exact rfl) (by decide) (by exact rfl) (by decide) ?_
       repeat' (first | (k_unfold; (try dsimp only)) | ((with_reducible show wpAny _ _ (execs (_ :: _) _) _ _ _); refine execs_hide ?_; intro Qk9 kH9; (try dsimp only)) | ((with_reducible rename Hid _ _ _ => kH9); first | (refine hid_next kH9 ?_; clear kH9; (try clear Qk9)) | (refine hid_other kH9 (by nofun) ?_; clear kH9; (try clear Qk9)); (try dsimp only)) | ((with_reducible show wpAny _ _ (subscriptTail _ (PySem.Expr.Slice _ _ none _) (Value.ref _) (Value.ref _)) _ _ _); k_dflt (refine' kmk_slice (by k_asm) (by k_asm) (by kmk_list) (by kmk_part) (by kmk_part) ?_ (by with_unfolding_all rfl) (by kmk_pure) (by refine size_ok ?_; (try simp only [List.size_toArray, Array.size_push, List.length_append, List.length_cons, List.length_nil]); omega)); intro _ _ _ _ l1'; (try k_lt l1'); (try (revert l1'; intro _)); (try k_sweep)) | ((with_reducible show wpAny _ _ (subscriptTail _ _ (Value.ref _) (Value.int _ _)) _ _ _); k_dflt (first | refine list_item (by k_asm) (by k_mem) (by decide) (by decide) (by assumption) ?_ (by with_unfolding_all rfl) | refine item_tupleT (by assumption) (by decide) (by decide) (by rfl) (by rfl) ?_)) | ((with_reducible show wpAny _ _ (binaryOp Operator.Add (Value.str _ _) (Value.str _ _)) _ _ _); k_dflt (refine SB.add ?_ (add_fits (by walk_at "m_len") (by walk_at "m_len") (by decide +kernel)); intro _ _; (try dsimp only))) | ((with_reducible show wpAny _ _ (call (Value.builtin "len") [Value.str _ _]) _ _ _); k_dflt (refine len_str_ok (Nat.le_trans (by walk_at "m_len") (by decide +kernel)) ?_; (try dsimp only))) | ((with_reducible show wpAny _ _ (call (Value.builtin "list.append") [Value.ref _, _]) _ _ _); k_dflt (refine append_K (by k_asm) (by k_asm) (by k_upd) ?_ (by refine size_ok ?_; (try simp only [List.size_toArray]); omega); k_whole); intro _ _ _; (try k_sweep)) | ((with_reducible show wpAny _ _ (storeName (compEnvC _ _ _ _) _ _) _ _ _); k_dflt (refine cc_store (by assumption) (by assumption) (by exact rfl) (by exact rfl) ?_); intro _ _ _; (try k_sweep)) | ((with_reducible show wpAny _ _ (eval (Expr.Name _ _) (compEnvC _ _ _ _)) _ _ _); k_dflt (refine cc_load (by assumption) (by exact rfl) ?_ (by exact rfl) (by exact rfl) (by exact rfl))) | ((with_reducible show wpAny _ _ _ _ _ _); (fail_if_success (with_reducible first | show wpAny _ _ (exec (Stmt.For _ _ _ _ _) _) _ _ _ | show wpAny _ _ (exec (Stmt.While _ _ _ _) _) _ _ _ | show wpAny _ _ (pyIter _) _ _ _ | show wpAny _ _ (call (Value.builtin "list.pop") _ _) _ _ _ | show wpAny _ _ (call (Value.builtin "str.join") _ _) _ _ _ | show wpAny _ _ (call (Value.builtin "max") _ _) _ _ _ | show wpAny _ _ (setItem _ _ _) _ _ _ | show wpAny _ _ (call (Value.builtin "str.replace") _ _) _ _ _ | show wpAny _ _ (call (Value.builtin "str.split") _ _) _ _ _ | show wpAny _ _ (call (Value.ref _) _ _) _ _ _ | show wpAny _ _ (eval (Expr.ListComp _ _ _ _) _) _ _ _ | show wpAny _ _ (exec (Stmt.Assign _ (Expr.ListComp _ _ _ _) _) _) _ _ _)); first | walk1 | (dsimp only; walk1)) | ((with_reducible show Frag.In _ _ ∧ _); (refine ⟨by k_in, ?_⟩); (try dsimp only [List.nil_append, List.cons_append])) | ((with_reducible show (if _ then _ else _)); walk1))
       rename_i D2 h5 F5 N5 hD2
       rw [show (some (1 : Int)) = some ((1 : Nat) : Int) from rfl, slicePick_from'] at N5
       change News s.heap s.heap.objs.size h5 ((D2, W.listOf (tv.drop 1).toArray 0) :: _) at N5
       refine compi_list (fun i r objs k => ∃ (p g : Nat) (t : Tok), (pp.drop 1)[i]? = some (p, g) ∧ r = some (.int (g : Nat) t) ∧ objs = []) hh ⟨_, (N5 _ (.head _)).1, rfl, _, rfl⟩ ?_ ?_ ?_
       · rw [List.size_toArray, List.length_drop]; exact size_ok (by omega)
       · rintro C j v h6 tk6 m₁ olds hj hv htk6 F₁ N₁
         dsimp only at F₁ N₁
         obtain ⟨a, q, g, tq, tg', hpj, rfl, hmem⟩ := pairs_at (pairs_drop 1 htop) hv
         have hT : IsTup h6 a #[.int (q : Nat) tq, .int (g : Nat) tg'] := by
           have := (N5 (a, tupObj (q : Nat) (g : Nat) tq tg') (mem_led hmem)).1
           exact ⟨_, F₁.keep _ _ this, rfl, _, rfl⟩
         refine unpackN_ F₁ N₁ hT hh (by exact rfl) (by exact rfl) ?_
         intro h8 F8 N8
         repeat' (first | (k_unfold; (try dsimp only)) | ((with_reducible show wpAny _ _ (execs (_ :: _) _) _ _ _); refine execs_hide ?_; intro Qk9 kH9; (try dsimp only)) | ((with_reducible rename Hid _ _ _ => kH9); first | (refine hid_next kH9 ?_; clear kH9; (try clear Qk9)) | (refine hid_other kH9 (by nofun) ?_; clear kH9; (try clear Qk9)); (try dsimp only)) | ((with_reducible show wpAny _ _ (subscriptTail _ (PySem.Expr.Slice _ _ none _) (Value.ref _) (Value.ref _)) _ _ _); k_dflt (refine' kmk_slice (by k_asm) (by k_asm) (by kmk_list) (by kmk_part) (by kmk_part) ?_ (by with_unfolding_all rfl) (by kmk_pure) (by refine size_ok ?_; (try simp only [List.size_toArray, Array.size_push, List.length_append, List.length_cons, List.length_nil]); omega)); intro _ _ _ _ l1'; (try k_lt l1'); (try (revert l1'; intro _)); (try k_sweep)) | ((with_reducible show wpAny _ _ (subscriptTail _ _ (Value.ref _) (Value.int _ _)) _ _ _); k_dflt (first | refine list_item (by k_asm) (by k_mem) (by decide) (by decide) (by assumption) ?_ (by with_unfolding_all rfl) | refine item_tupleT (by assumption) (by decide) (by decide) (by rfl) (by rfl) ?_)) | ((with_reducible show wpAny _ _ (binaryOp Operator.Add (Value.str _ _) (Value.str _ _)) _ _ _); k_dflt (refine SB.add ?_ (add_fits (by walk_at "m_len") (by walk_at "m_len") (by decide +kernel)); intro _ _; (try dsimp only))) | ((with_reducible show wpAny _ _ (call (Value.builtin "len") [Value.str _ _]) _ _ _); k_dflt (refine len_str_ok (Nat.le_trans (by walk_at "m_len") (by decide +kernel)) ?_; (try dsimp only))) | ((with_reducible show wpAny _ _ (call (Value.builtin "list.append") [Value.ref _, _]) _ _ _); k_dflt (refine append_K (by k_asm) (by k_asm) (by k_upd) ?_ (by refine size_ok ?_; (try simp only [List.size_toArray]); omega); k_whole); intro _ _ _; (try k_sweep)) | ((with_reducible show wpAny _ _ (storeName (compEnvC _ _ _ _) _ _) _ _ _); k_dflt (refine cc_store (by assumption) (by assumption) (by exact rfl) (by exact rfl) ?_); intro _ _ _; (try k_sweep)) | ((with_reducible show wpAny _ _ (eval (Expr.Name _ _) (compEnvC _ _ _ _)) _ _ _); k_dflt (refine cc_load (by assumption) (by exact rfl) ?_ (by exact rfl) (by exact rfl) (by exact rfl))) | ((with_reducible show wpAny _ _ _ _ _ _); (fail_if_success (with_reducible first | show wpAny _ _ (exec (Stmt.For _ _ _ _ _) _) _ _ _ | show wpAny _ _ (exec (Stmt.While _ _ _ _) _) _ _ _ | show wpAny _ _ (pyIter _) _ _ _ | show wpAny _ _ (call (Value.builtin "list.pop") _ _) _ _ _ | show wpAny _ _ (call (Value.builtin "str.join") _ _) _ _ _ | show wpAny _ _ (call (Value.builtin "max") _ _) _ _ _ | show wpAny _ _ (setItem _ _ _) _ _ _ | show wpAny _ _ (call (Value.builtin "str.replace") _ _) _ _ _ | show wpAny _ _ (call (Value.builtin "str.split") _ _) _ _ _ | show wpAny _ _ (call (Value.ref _) _ _) _ _ _ | show wpAny _ _ (eval (Expr.ListComp _ _ _ _) _) _ _ _ | show wpAny _ _ (exec (Stmt.Assign _ (Expr.ListComp _ _ _ _) _) _) _ _ _)); first | walk1 | (dsimp only; walk1)) | ((with_reducible show Frag.In _ _ ∧ _); (refine ⟨by k_in, ?_⟩); (try dsimp only [List.nil_append, List.cons_append])) | ((with_reducible show (if _ then _ else _)); walk1))
         rename_i F' N'
         exact ⟨_, _, _, [], rfl, F', N', (fun q hq => nomatch hq), q, g, tg', hpj, rfl, rfl⟩
       · intro h6 D3 h7 tk7 rs hD3 hle hlen hEl hlist hst hobj
         dsimp only at hst hlist hle hD3
         rw [List.size_toArray, List.length_drop] at hlen
         have hints := picked_ints (ps := pp.drop 1) (rs := rs) (by rw [hlen, List.length_drop, ← hptl, htl]) fun i r hr => let ⟨_, _, q, g, t, e1, e2, _⟩ := hEl i r hr; ⟨q, g, t, e1, e2⟩
         obtain ⟨k3, hk3⟩ := hlist
         have F7 := fr_stays F5 hst
         have N7 := news_new F5 hD3 hk3 (news_stays N5 hst)
         have hl3 := news_lt N5 hD3
         clear hEl hobj F5 N5
         k_lt hl3
         have hk3' := hk3
         generalize rs.filterMap (·.1) = iv at N7 hints hk3'
         repeat' (first | (k_unfold; (try dsimp only)) | ((with_reducible show wpAny _ _ (execs (_ :: _) _) _ _ _); refine execs_hide ?_; intro Qk9 kH9; (try dsimp only)) | ((with_reducible rename Hid _ _ _ => kH9); first | (refine hid_next kH9 ?_; clear kH9; (try clear Qk9)) | (refine hid_other kH9 (by nofun) ?_; clear kH9; (try clear Qk9)); (try dsimp only)) | ((with_reducible show wpAny _ _ (subscriptTail _ (PySem.Expr.Slice _ _ none _) (Value.ref _) (Value.ref _)) _ _ _); k_dflt (refine' kmk_slice (by k_asm) (by k_asm) (by kmk_list) (by kmk_part) (by kmk_part) ?_ (by with_unfolding_all rfl) (by kmk_pure) (by refine size_ok ?_; (try simp only [List.size_toArray, Array.size_push, List.length_append, List.length_cons, List.length_nil]); omega)); intro _ _ _ _ l1'; (try k_lt l1'); (try (revert l1'; intro _)); (try k_sweep)) | ((with_reducible show wpAny _ _ (subscriptTail _ _ (Value.ref _) (Value.int _ _)) _ _ _); k_dflt (first | refine list_item (by k_asm) (by k_mem) (by decide) (by decide) (by assumption) ?_ (by with_unfolding_all rfl) | refine item_tupleT (by assumption) (by decide) (by decide) (by rfl) (by rfl) ?_)) | ((with_reducible show wpAny _ _ (binaryOp Operator.Add (Value.str _ _) (Value.str _ _)) _ _ _); k_dflt (refine SB.add ?_ (add_fits (by walk_at "m_len") (by walk_at "m_len") (by decide +kernel)); intro _ _; (try dsimp only))) | ((with_reducible show wpAny _ _ (call (Value.builtin "len") [Value.str _ _]) _ _ _); k_dflt (refine len_str_ok (Nat.le_trans (by walk_at "m_len") (by decide +kernel)) ?_; (try dsimp only))) | ((with_reducible show wpAny _ _ (call (Value.builtin "list.append") [Value.ref _, _]) _ _ _); k_dflt (refine append_K (by k_asm) (by k_asm) (by k_upd) ?_ (by refine size_ok ?_; (try simp only [List.size_toArray]); omega); k_whole); intro _ _ _; (try k_sweep)) | ((with_reducible show wpAny _ _ (storeName (compEnvC _ _ _ _) _ _) _ _ _); k_dflt (refine cc_store (by assumption) (by assumption) (by exact rfl) (by exact rfl) ?_); intro _ _ _; (try k_sweep)) | ((with_reducible show wpAny _ _ (eval (Expr.Name _ _) (compEnvC _ _ _ _)) _ _ _); k_dflt (refine cc_load (by assumption) (by exact rfl) ?_ (by exact rfl) (by exact rfl) (by exact rfl))) | ((with_reducible show wpAny _ _ _ _ _ _); (fail_if_success (with_reducible first | show wpAny _ _ (exec (Stmt.For _ _ _ _ _) _) _ _ _ | show wpAny _ _ (exec (Stmt.While _ _ _ _) _) _ _ _ | show wpAny _ _ (pyIter _) _ _ _ | show wpAny _ _ (call (Value.builtin "list.pop") _ _) _ _ _ | show wpAny _ _ (call (Value.builtin "str.join") _ _) _ _ _ | show wpAny _ _ (call (Value.builtin "max") _ _) _ _ _ | show wpAny _ _ (setItem _ _ _) _ _ _ | show wpAny _ _ (call (Value.builtin "str.replace") _ _) _ _ _ | show wpAny _ _ (call (Value.builtin "str.split") _ _) _ _ _ | show wpAny _ _ (call (Value.ref _) _ _) _ _ _ | show wpAny _ _ (eval (Expr.ListComp _ _ _ _) _) _ _ _ | show wpAny _ _ (exec (Stmt.Assign _ (Expr.ListComp _ _ _ _) _) _) _ _ _)); first | walk1 | (dsimp only; walk1)) | ((with_reducible show Frag.In _ _ ∧ _); (refine ⟨by k_in, ?_⟩); (try dsimp only [List.nil_append, List.cons_append])) | ((with_reducible show (if _ then _ else _)); walk1))
         refine max_list_N hh F7 N7 ⟨_, hk3', rfl, _, rfl⟩ hints ?_ ?_
         · unfold asInts; rw [List.length_map, List.length_map, List.length_drop, ← hptl]; decide
         intro h8 M tM tk8 F8 N8 hM1 hM2
         obtain rfl := max_cast hM1 hM2
         clear hM1 hM2 F7 N7 hk3' hints
         rw [← List.drop_one] at hstep
         generalize maxL ((pp.drop 1).map (·.2)) = mx at hstep ⊢
         repeat' (first | (k_unfold; (try dsimp only)) | ((with_reducible show wpAny _ _ (execs (_ :: _) _) _ _ _); refine execs_hide ?_; intro Qk9 kH9; (try dsimp only)) | ((with_reducible rename Hid _ _ _ => kH9); first | (refine hid_next kH9 ?_; clear kH9; (try clear Qk9)) | (refine hid_other kH9 (by nofun) ?_; clear kH9; (try clear Qk9)); (try dsimp only)) | ((with_reducible show wpAny _ _ (subscriptTail _ (PySem.Expr.Slice _ _ none _) (Value.ref _) (Value.ref _)) _ _ _); k_dflt (refine' kmk_slice (by k_asm) (by k_asm) (by kmk_list) (by kmk_part) (by kmk_part) ?_ (by with_unfolding_all rfl) (by kmk_pure) (by refine size_ok ?_; (try simp only [List.size_toArray, Array.size_push, List.length_append, List.length_cons, List.length_nil]); omega)); intro _ _ _ _ l1'; (try k_lt l1'); (try (revert l1'; intro _)); (try k_sweep)) | ((with_reducible show wpAny _ _ (subscriptTail _ _ (Value.ref _) (Value.int _ _)) _ _ _); k_dflt (first | refine list_item (by k_asm) (by k_mem) (by decide) (by decide) (by assumption) ?_ (by with_unfolding_all rfl) | refine item_tupleT (by assumption) (by decide) (by decide) (by rfl) (by rfl) ?_)) | ((with_reducible show wpAny _ _ (binaryOp Operator.Add (Value.str _ _) (Value.str _ _)) _ _ _); k_dflt (refine SB.add ?_ (add_fits (by walk_at "m_len") (by walk_at "m_len") (by decide +kernel)); intro _ _; (try dsimp only))) | ((with_reducible show wpAny _ _ (call (Value.builtin "len") [Value.str _ _]) _ _ _); k_dflt (refine len_str_ok (Nat.le_trans (by walk_at "m_len") (by decide +kernel)) ?_; (try dsimp only))) | ((with_reducible show wpAny _ _ (call (Value.builtin "list.append") [Value.ref _, _]) _ _ _); k_dflt (refine append_K (by k_asm) (by k_asm) (by k_upd) ?_ (by refine size_ok ?_; (try simp only [List.size_toArray]); omega); k_whole); intro _ _ _; (try k_sweep)) | ((with_reducible show wpAny _ _ (storeName (compEnvC _ _ _ _) _ _) _ _ _); k_dflt (refine cc_store (by assumption) (by assumption) (by exact rfl) (by exact rfl) ?_); intro _ _ _; (try k_sweep)) | ((with_reducible show wpAny _ _ (eval (Expr.Name _ _) (compEnvC _ _ _ _)) _ _ _); k_dflt (refine cc_load (by assumption) (by exact rfl) ?_ (by exact rfl) (by exact rfl) (by exact rfl))) | ((with_reducible show wpAny _ _ _ _ _ _); (fail_if_success (with_reducible first | show wpAny _ _ (exec (Stmt.For _ _ _ _ _) _) _ _ _ | show wpAny _ _ (exec (Stmt.While _ _ _ _) _) _ _ _ | show wpAny _ _ (pyIter _) _ _ _ | show wpAny _ _ (call (Value.builtin "list.pop") _ _) _ _ _ | show wpAny _ _ (call (Value.builtin "str.join") _ _) _ _ _ | show wpAny _ _ (call (Value.builtin "max") _ _) _ _ _ | show wpAny _ _ (setItem _ _ _) _ _ _ | show wpAny _ _ (call (Value.builtin "str.replace") _ _) _ _ _ | show wpAny _ _ (call (Value.builtin "str.split") _ _) _ _ _ | show wpAny _ _ (call (Value.ref _) _ _) _ _ _ | show wpAny _ _ (eval (Expr.ListComp _ _ _ _) _) _ _ _ | show wpAny _ _ (exec (Stmt.Assign _ (Expr.ListComp _ _ _ _) _) _) _ _ _)); first | walk1 | (dsimp only; walk1)) | ((with_reducible show Frag.In _ _ ∧ _); (refine ⟨by k_in, ?_⟩); (try dsimp only [List.nil_append, List.cons_append])) | ((with_reducible show (if _ then _ else _)); walk1))
         refine for_inv (h₀ := s.heap) ?_
         repeat' (first | (k_unfold; (try dsimp only)) | ((with_reducible show wpAny _ _ (execs (_ :: _) _) _ _ _); refine execs_hide ?_; intro Qk9 kH9; (try dsimp only)) | ((with_reducible rename Hid _ _ _ => kH9); first | (refine hid_next kH9 ?_; clear kH9; (try clear Qk9)) | (refine hid_other kH9 (by nofun) ?_; clear kH9; (try clear Qk9)); (try dsimp only)) | ((with_reducible show wpAny _ _ (subscriptTail _ (PySem.Expr.Slice _ _ none _) (Value.ref _) (Value.ref _)) _ _ _); k_dflt (refine' kmk_slice (by k_asm) (by k_asm) (by kmk_list) (by kmk_part) (by kmk_part) ?_ (by with_unfolding_all rfl) (by kmk_pure) (by refine size_ok ?_; (try simp only [List.size_toArray, Array.size_push, List.length_append, List.length_cons, List.length_nil]); omega)); intro _ _ _ _ l1'; (try k_lt l1'); (try (revert l1'; intro _)); (try k_sweep)) | ((with_reducible show wpAny _ _ (subscriptTail _ _ (Value.ref _) (Value.int _ _)) _ _ _); k_dflt (first | refine list_item (by k_asm) (by k_mem) (by decide) (by decide) (by assumption) ?_ (by with_unfolding_all rfl) | refine item_tupleT (by assumption) (by decide) (by decide) (by rfl) (by rfl) ?_)) | ((with_reducible show wpAny _ _ (binaryOp Operator.Add (Value.str _ _) (Value.str _ _)) _ _ _); k_dflt (refine SB.add ?_ (add_fits (by walk_at "m_len") (by walk_at "m_len") (by decide +kernel)); intro _ _; (try dsimp only))) | ((with_reducible show wpAny _ _ (call (Value.builtin "len") [Value.str _ _]) _ _ _); k_dflt (refine len_str_ok (Nat.le_trans (by walk_at "m_len") (by decide +kernel)) ?_; (try dsimp only))) | ((with_reducible show wpAny _ _ (call (Value.builtin "list.append") [Value.ref _, _]) _ _ _); k_dflt (refine append_K (by k_asm) (by k_asm) (by k_upd) ?_ (by refine size_ok ?_; (try simp only [List.size_toArray]); omega); k_whole); intro _ _ _; (try k_sweep)) | ((with_reducible show wpAny _ _ (storeName (compEnvC _ _ _ _) _ _) _ _ _); k_dflt (refine cc_store (by assumption) (by assumption) (by exact rfl) (by exact rfl) ?_); intro _ _ _; (try k_sweep)) | ((with_reducible show wpAny _ _ (eval (Expr.Name _ _) (compEnvC _ _ _ _)) _ _ _); k_dflt (refine cc_load (by assumption) (by exact rfl) ?_ (by exact rfl) (by exact rfl) (by exact rfl))) | ((with_reducible show wpAny _ _ _ _ _ _); (fail_if_success (with_reducible first | show wpAny _ _ (exec (Stmt.For _ _ _ _ _) _) _ _ _ | show wpAny _ _ (exec (Stmt.While _ _ _ _) _) _ _ _ | show wpAny _ _ (pyIter _) _ _ _ | show wpAny _ _ (call (Value.builtin "list.pop") _ _) _ _ _ | show wpAny _ _ (call (Value.builtin "str.join") _ _) _ _ _ | show wpAny _ _ (call (Value.builtin "max") _ _) _ _ _ | show wpAny _ _ (setItem _ _ _) _ _ _ | show wpAny _ _ (call (Value.builtin "str.replace") _ _) _ _ _ | show wpAny _ _ (call (Value.builtin "str.split") _ _) _ _ _ | show wpAny _ _ (call (Value.ref _) _ _) _ _ _ | show wpAny _ _ (eval (Expr.ListComp _ _ _ _) _) _ _ _ | show wpAny _ _ (exec (Stmt.Assign _ (Expr.ListComp _ _ _ _) _) _) _ _ _)); first | walk1 | (dsimp only; walk1)) | ((with_reducible show Frag.In _ _ ∧ _); (refine ⟨by k_in, ?_⟩); (try dsimp only [List.nil_append, List.cons_append])) | ((with_reducible show (if _ then _ else _)); walk1))
         rename_i h9 F9 N9
         rw [show (1 + (mx : Int)) = ((1 + mx : Nat) : Int) by omega] at F9
         replace N9 := kst_newsOf (l' := (Dt, W.listOf tv.toArray 0) :: (D', tupObj (i : Nat) ((rrun row.cps.toList i).gap : Nat) ti tg) :: (I, oI) :: (ap, W.listOf (pvs ++ [Value.ref D']).toArray (pk + 1)) :: (ar, W.listOf rvs.toArray rk) :: tups) N9 (by kst_allIn)
         have hbound : ∀ q ∈ pp, q.1 < row.cps.toList.length := by
           intro q hq
           rw [← hpp] at hq
           have h1 := List.mem_of_mem_drop hq
           rcases List.mem_append.mp h1 with h1 | h1
           · have := hrb.2.2.1 q h1; omega
           · rw [List.mem_singleton.mp h1]; exact hlr
         refine iter_list (fun j g m₁ news₁ => ∃ rvs rk tsn' tn', (∀ q ∈ [(Str.ofString "row", Value.str row tr), (Str.ofString "rounds", .ref ar), (Str.ofString "pile", .ref ap), (Str.ofString "seen", .str (sn ++ Txt.item row (i : Int)) tsn'), (Str.ofString "top", .ref Dt), (Str.ofString "number", .int ((1 + mx : Nat) : Int) tn')], m₁ q.1 = some q.2) ∧
           news₁ = (Dt, W.listOf tv.toArray 0) :: (D', tupObj (i : Nat) ((rrun row.cps.toList i).gap : Nat) ti tg) :: (I, oI) :: (ap, W.listOf (pvs ++ [Value.ref D']).toArray (pk + 1)) :: (ar, W.listOf rvs.toArray rk) :: tups ∧
           IntsAre rvs (asInts (setAll (1 + mx) (rrun row.cps.toList i).rounds (pp.take j))) ∧ g = s.gens) hh ⟨_, (N9 _ (.head _)).1, rfl, _, rfl⟩ (.inr ⟨_, fun i g m₁ news₁ hJ => by obtain ⟨_, _, _, _, _, rfl, _⟩ := hJ; exact .head _⟩) F9 N9 ?_ ?_ ?_
         · exact ⟨_, _, _, _, by kst_all, rfl, hri, rfl⟩
         · rintro I2 j v m₂ news₂ g h10 tk10 oI2 hj hv ⟨rvs2, rk2, ts2, tn2, hm2, rfl, hri2, rfl⟩ hoffI htk10 F10 N10
           replace F10 := fr_kst _ F10 hm2
           simp only [kstB] at F10
           change Fr s.heap s.heap.objs.size h10 _ at F10
           change News s.heap s.heap.objs.size h10 _ at N10
           obtain ⟨a, q, g', tq, tg'', hpj, rfl, hmem⟩ := pairs_at htop hv
           have hT : IsTup h10 a #[.int (q : Nat) tq, .int (g' : Nat) tg''] :=
             ⟨_, (N10 (a, tupObj (q : Nat) (g' : Nat) tq tg'') (mem_led hmem)).1, rfl, _, rfl⟩
           have hqr : q < rvs2.length := by
             rw [hri2.length]; unfold asInts; rw [List.length_map, setAll_len, hrb.2.2.2]
             exact hbound _ (List.mem_of_getElem? hpj)
           have hoI1 := neN (hoffI _ (.head _))
           have hoI2 := neN (hoffI _ (.tail _ (.head _)))
           have hoI3 := neN (hoffI _ (.tail _ (.tail _ (.head _))))
           have hoI4 := neN (hoffI _ (.tail _ (.tail _ (.tail _ (.head _)))))
           have hoI5 := neN (hoffI _ (.tail _ (.tail _ (.tail _ (.tail _ (.head _))))))
           dsimp only at hoI1 hoI2 hoI3 hoI4 hoI5
           clear hm2 F9 N9
           refine unpackN_ F10 N10 hT hh (by exact rfl) (by exact rfl) ?_
           intro h11 F11 N11
           repeat' (first | (k_unfold; (try dsimp only)) | ((with_reducible show wpAny _ _ (execs (_ :: _) _) _ _ _); refine execs_hide ?_; intro Qk9 kH9; (try dsimp only)) | ((with_reducible rename Hid _ _ _ => kH9); first | (refine hid_next kH9 ?_; clear kH9; (try clear Qk9)) | (refine hid_other kH9 (by nofun) ?_; clear kH9; (try clear Qk9)); (try dsimp only)) | ((with_reducible show wpAny _ _ (subscriptTail _ (PySem.Expr.Slice _ _ none _) (Value.ref _) (Value.ref _)) _ _ _); k_dflt (refine' kmk_slice (by k_asm) (by k_asm) (by kmk_list) (by kmk_part) (by kmk_part) ?_ (by with_unfolding_all rfl) (by kmk_pure) (by refine size_ok ?_; (try simp only [List.size_toArray, Array.size_push, List.length_append, List.length_cons, List.length_nil]); omega)); intro _ _ _ _ l1'; (try k_lt l1'); (try (revert l1'; intro _)); (try k_sweep)) | ((with_reducible show wpAny _ _ (subscriptTail _ _ (Value.ref _) (Value.int _ _)) _ _ _); k_dflt (first | refine list_item (by k_asm) (by k_mem) (by decide) (by decide) (by assumption) ?_ (by with_unfolding_all rfl) | refine item_tupleT (by assumption) (by decide) (by decide) (by rfl) (by rfl) ?_)) | ((with_reducible show wpAny _ _ (binaryOp Operator.Add (Value.str _ _) (Value.str _ _)) _ _ _); k_dflt (refine SB.add ?_ (add_fits (by walk_at "m_len") (by walk_at "m_len") (by decide +kernel)); intro _ _; (try dsimp only))) | ((with_reducible show wpAny _ _ (call (Value.builtin "len") [Value.str _ _]) _ _ _); k_dflt (refine len_str_ok (Nat.le_trans (by walk_at "m_len") (by decide +kernel)) ?_; (try dsimp only))) | ((with_reducible show wpAny _ _ (call (Value.builtin "list.append") [Value.ref _, _]) _ _ _); k_dflt (refine append_K (by k_asm) (by k_asm) (by k_upd) ?_ (by refine size_ok ?_; (try simp only [List.size_toArray]); omega); k_whole); intro _ _ _; (try k_sweep)) | ((with_reducible show wpAny _ _ (storeName (compEnvC _ _ _ _) _ _) _ _ _); k_dflt (refine cc_store (by assumption) (by assumption) (by exact rfl) (by exact rfl) ?_); intro _ _ _; (try k_sweep)) | ((with_reducible show wpAny _ _ (eval (Expr.Name _ _) (compEnvC _ _ _ _)) _ _ _); k_dflt (refine cc_load (by assumption) (by exact rfl) ?_ (by exact rfl) (by exact rfl) (by exact rfl))) | ((with_reducible show wpAny _ _ _ _ _ _); (fail_if_success (with_reducible first | show wpAny _ _ (exec (Stmt.For _ _ _ _ _) _) _ _ _ | show wpAny _ _ (exec (Stmt.While _ _ _ _) _) _ _ _ | show wpAny _ _ (pyIter _) _ _ _ | show wpAny _ _ (call (Value.builtin "list.pop") _ _) _ _ _ | show wpAny _ _ (call (Value.builtin "str.join") _ _) _ _ _ | show wpAny _ _ (call (Value.builtin "max") _ _) _ _ _ | show wpAny _ _ (setItem _ _ _) _ _ _ | show wpAny _ _ (call (Value.builtin "str.replace") _ _) _ _ _ | show wpAny _ _ (call (Value.builtin "str.split") _ _) _ _ _ | show wpAny _ _ (call (Value.ref _) _ _) _ _ _ | show wpAny _ _ (eval (Expr.ListComp _ _ _ _) _) _ _ _ | show wpAny _ _ (exec (Stmt.Assign _ (Expr.ListComp _ _ _ _) _) _) _ _ _)); first | walk1 | (dsimp only; walk1)) | ((with_reducible show Frag.In _ _ ∧ _); (refine ⟨by k_in, ?_⟩); (try dsimp only [List.nil_append, List.cons_append])) | ((with_reducible show (if _ then _ else _)); walk1))
           rename_i F12 N12
           refine' set_at F12 N12 ?U hqr ?z ?_
           case U => k_upd
           case z => rw [hri2.length]; unfold asInts; rw [List.length_map, setAll_len, hrb.2.2.2, ← len_list]; omega
           intro h13 F13 N13
           repeat' (first | (k_unfold; (try dsimp only)) | ((with_reducible show wpAny _ _ (execs (_ :: _) _) _ _ _); refine execs_hide ?_; intro Qk9 kH9; (try dsimp only)) | ((with_reducible rename Hid _ _ _ => kH9); first | (refine hid_next kH9 ?_; clear kH9; (try clear Qk9)) | (refine hid_other kH9 (by nofun) ?_; clear kH9; (try clear Qk9)); (try dsimp only)) | ((with_reducible show wpAny _ _ (subscriptTail _ (PySem.Expr.Slice _ _ none _) (Value.ref _) (Value.ref _)) _ _ _); k_dflt (refine' kmk_slice (by k_asm) (by k_asm) (by kmk_list) (by kmk_part) (by kmk_part) ?_ (by with_unfolding_all rfl) (by kmk_pure) (by refine size_ok ?_; (try simp only [List.size_toArray, Array.size_push, List.length_append, List.length_cons, List.length_nil]); omega)); intro _ _ _ _ l1'; (try k_lt l1'); (try (revert l1'; intro _)); (try k_sweep)) | ((with_reducible show wpAny _ _ (subscriptTail _ _ (Value.ref _) (Value.int _ _)) _ _ _); k_dflt (first | refine list_item (by k_asm) (by k_mem) (by decide) (by decide) (by assumption) ?_ (by with_unfolding_all rfl) | refine item_tupleT (by assumption) (by decide) (by decide) (by rfl) (by rfl) ?_)) | ((with_reducible show wpAny _ _ (binaryOp Operator.Add (Value.str _ _) (Value.str _ _)) _ _ _); k_dflt (refine SB.add ?_ (add_fits (by walk_at "m_len") (by walk_at "m_len") (by decide +kernel)); intro _ _; (try dsimp only))) | ((with_reducible show wpAny _ _ (call (Value.builtin "len") [Value.str _ _]) _ _ _); k_dflt (refine len_str_ok (Nat.le_trans (by walk_at "m_len") (by decide +kernel)) ?_; (try dsimp only))) | ((with_reducible show wpAny _ _ (call (Value.builtin "list.append") [Value.ref _, _]) _ _ _); k_dflt (refine append_K (by k_asm) (by k_asm) (by k_upd) ?_ (by refine size_ok ?_; (try simp only [List.size_toArray]); omega); k_whole); intro _ _ _; (try k_sweep)) | ((with_reducible show wpAny _ _ (storeName (compEnvC _ _ _ _) _ _) _ _ _); k_dflt (refine cc_store (by assumption) (by assumption) (by exact rfl) (by exact rfl) ?_); intro _ _ _; (try k_sweep)) | ((with_reducible show wpAny _ _ (eval (Expr.Name _ _) (compEnvC _ _ _ _)) _ _ _); k_dflt (refine cc_load (by assumption) (by exact rfl) ?_ (by exact rfl) (by exact rfl) (by exact rfl))) | ((with_reducible show wpAny _ _ _ _ _ _); (fail_if_success (with_reducible first | show wpAny _ _ (exec (Stmt.For _ _ _ _ _) _) _ _ _ | show wpAny _ _ (exec (Stmt.While _ _ _ _) _) _ _ _ | show wpAny _ _ (pyIter _) _ _ _ | show wpAny _ _ (call (Value.builtin "list.pop") _ _) _ _ _ | show wpAny _ _ (call (Value.builtin "str.join") _ _) _ _ _ | show wpAny _ _ (call (Value.builtin "max") _ _) _ _ _ | show wpAny _ _ (setItem _ _ _) _ _ _ | show wpAny _ _ (call (Value.builtin "str.replace") _ _) _ _ _ | show wpAny _ _ (call (Value.builtin "str.split") _ _) _ _ _ | show wpAny _ _ (call (Value.ref _) _ _) _ _ _ | show wpAny _ _ (eval (Expr.ListComp _ _ _ _) _) _ _ _ | show wpAny _ _ (exec (Stmt.Assign _ (Expr.ListComp _ _ _ _) _) _) _ _ _)); first | walk1 | (dsimp only; walk1)) | ((with_reducible show Frag.In _ _ ∧ _); (refine ⟨by k_in, ?_⟩); (try dsimp only [List.nil_append, List.cons_append])) | ((with_reducible show (if _ then _ else _)); walk1))
           refine ⟨_, _, _, _, (Dt, W.listOf tv.toArray 0) :: (D', tupObj (i : Nat) ((rrun row.cps.toList i).gap : Nat) ti tg) :: (I, oI) :: (ap, W.listOf (pvs ++ [Value.ref D']).toArray (pk + 1)) :: (ar, W.listOf (rvs2.set q (Value.int ((1 + mx : Nat) : Int) tn2)).toArray rk2) :: tups, rfl, F13, N13, ?_, _, _, _, _, by kst_all, rfl, ?_, rfl⟩
           · intro x hx
             rcases List.mem_cons.mp hx with rfl | hx
             · exact hoI1
             rcases List.mem_cons.mp hx with rfl | hx
             · exact hoI2
             rcases List.mem_cons.mp hx with rfl | hx
             · exact hoI3
             rcases List.mem_cons.mp hx with rfl | hx
             · exact hoI4
             rcases List.mem_cons.mp hx with rfl | hx
             · exact hoI5
             · exact hoffI x (.tail _ (.tail _ (.tail _ (.tail _ (.tail _ hx)))))
           · have e : pp.take (j + 1) = pp.take j ++ [(q, g')] := by rw [List.take_add_one, hpj]; rfl
             rw [e, setAll_snoc]
             exact ints_set hri2
         · rintro h14 tk14 g m14 news14 htk14 F14 N14 ⟨rvs3, rk3, ts3, tn3, hm3, rfl, hri3, rfl⟩
           rw [List.size_toArray, htl, List.take_of_length_le (by omega)] at hri3
           replace F14 := fr_kst _ F14 hm3
           simp only [kstB] at F14
           change Fr s.heap s.heap.objs.size h14 _ at F14
           change News s.heap s.heap.objs.size h14 _ at N14
           clear hm3 F9 N9
           obtain ⟨v0, hv0⟩ : ∃ v0, tv[0]? = some v0 := ⟨tv[0]'(by omega), List.getElem?_eq_getElem _⟩
           obtain ⟨a0, q0, g0, tq0, tg0, hp0, rfl, hm0⟩ := pairs_at htop (show tv.toArray[0]? = some v0 by rw [List.getElem?_toArray]; exact hv0)
           have hv0' : tv[Int.toNat 0]? = some (Value.ref a0) := hv0
           have hT0 : IsTup h14 a0 #[.int (q0 : Nat) tq0, .int (g0 : Nat) tg0] :=
             ⟨_, (N14 (a0, tupObj (q0 : Nat) (g0 : Nat) tq0 tg0) (by rcases List.mem_cons.mp hm0 with h | h; · rw [h]; simp
                                                                     · simp [h])).1, rfl, _, rfl⟩
           have hhd : (pp.headD (0, 0)).2 = g0 := by
             cases pp with
             | nil => cases hp0
             | cons x r => have := Option.some.inj hp0; rw [this]; rfl
           rw [hhd] at hstep
           dsimp only
           (try k_fold)
           repeat' (first | (k_unfold; (try dsimp only)) | ((with_reducible show wpAny _ _ (execs (_ :: _) _) _ _ _); refine execs_hide ?_; intro Qk9 kH9; (try dsimp only)) | ((with_reducible rename Hid _ _ _ => kH9); first | (refine hid_next kH9 ?_; clear kH9; (try clear Qk9)) | (refine hid_other kH9 (by nofun) ?_; clear kH9; (try clear Qk9)); (try dsimp only)) | ((with_reducible show wpAny _ _ (subscriptTail _ (PySem.Expr.Slice _ _ none _) (Value.ref _) (Value.ref _)) _ _ _); k_dflt (refine' kmk_slice (by k_asm) (by k_asm) (by kmk_list) (by kmk_part) (by kmk_part) ?_ (by with_unfolding_all rfl) (by kmk_pure) (by refine size_ok ?_; (try simp only [List.size_toArray, Array.size_push, List.length_append, List.length_cons, List.length_nil]); omega)); intro _ _ _ _ l1'; (try k_lt l1'); (try (revert l1'; intro _)); (try k_sweep)) | ((with_reducible show wpAny _ _ (subscriptTail _ _ (Value.ref _) (Value.int _ _)) _ _ _); k_dflt (first | refine list_item (by k_asm) (by k_mem) (by decide) (by decide) (by assumption) ?_ (by with_unfolding_all rfl) | refine item_tupleT (by assumption) (by decide) (by decide) (by rfl) (by rfl) ?_)) | ((with_reducible show wpAny _ _ (binaryOp Operator.Add (Value.str _ _) (Value.str _ _)) _ _ _); k_dflt (refine SB.add ?_ (add_fits (by walk_at "m_len") (by walk_at "m_len") (by decide +kernel)); intro _ _; (try dsimp only))) | ((with_reducible show wpAny _ _ (call (Value.builtin "len") [Value.str _ _]) _ _ _); k_dflt (refine len_str_ok (Nat.le_trans (by walk_at "m_len") (by decide +kernel)) ?_; (try dsimp only))) | ((with_reducible show wpAny _ _ (call (Value.builtin "list.append") [Value.ref _, _]) _ _ _); k_dflt (refine append_K (by k_asm) (by k_asm) (by k_upd) ?_ (by refine size_ok ?_; (try simp only [List.size_toArray]); omega); k_whole); intro _ _ _; (try k_sweep)) | ((with_reducible show wpAny _ _ (storeName (compEnvC _ _ _ _) _ _) _ _ _); k_dflt (refine cc_store (by assumption) (by assumption) (by exact rfl) (by exact rfl) ?_); intro _ _ _; (try k_sweep)) | ((with_reducible show wpAny _ _ (eval (Expr.Name _ _) (compEnvC _ _ _ _)) _ _ _); k_dflt (refine cc_load (by assumption) (by exact rfl) ?_ (by exact rfl) (by exact rfl) (by exact rfl))) | ((with_reducible show wpAny _ _ _ _ _ _); (fail_if_success (with_reducible first | show wpAny _ _ (exec (Stmt.For _ _ _ _ _) _) _ _ _ | show wpAny _ _ (exec (Stmt.While _ _ _ _) _) _ _ _ | show wpAny _ _ (pyIter _) _ _ _ | show wpAny _ _ (call (Value.builtin "list.pop") _ _) _ _ _ | show wpAny _ _ (call (Value.builtin "str.join") _ _) _ _ _ | show wpAny _ _ (call (Value.builtin "max") _ _) _ _ _ | show wpAny _ _ (setItem _ _ _) _ _ _ | show wpAny _ _ (call (Value.builtin "str.replace") _ _) _ _ _ | show wpAny _ _ (call (Value.builtin "str.split") _ _) _ _ _ | show wpAny _ _ (call (Value.ref _) _ _) _ _ _ | show wpAny _ _ (eval (Expr.ListComp _ _ _ _) _) _ _ _ | show wpAny _ _ (exec (Stmt.Assign _ (Expr.ListComp _ _ _ _) _) _) _ _ _)); first | walk1 | (dsimp only; walk1)) | ((with_reducible show Frag.In _ _ ∧ _); (refine ⟨by k_in, ?_⟩); (try dsimp only [List.nil_append, List.cons_append])) | ((with_reducible show (if _ then _ else _)); walk1))
           refine max_two_N hh F14 N14 ?_
           intro h15 tk15 F15 N15
           rw [show (if ((1 + mx : Nat) : Int) > ((g0 : Nat) : Int) then ((1 + mx : Nat) : Int) else ((g0 : Nat) : Int)) = ((max g0 (1 + mx) : Nat) : Int) by split <;> omega]
           repeat' (first | (k_unfold; (try dsimp only)) | ((with_reducible show wpAny _ _ (execs (_ :: _) _) _ _ _); refine execs_hide ?_; intro Qk9 kH9; (try dsimp only)) | ((with_reducible rename Hid _ _ _ => kH9); first | (refine hid_next kH9 ?_; clear kH9; (try clear Qk9)) | (refine hid_other kH9 (by nofun) ?_; clear kH9; (try clear Qk9)); (try dsimp only)) | ((with_reducible show wpAny _ _ (subscriptTail _ (PySem.Expr.Slice _ _ none _) (Value.ref _) (Value.ref _)) _ _ _); k_dflt (refine' kmk_slice (by k_asm) (by k_asm) (by kmk_list) (by kmk_part) (by kmk_part) ?_ (by with_unfolding_all rfl) (by kmk_pure) (by refine size_ok ?_; (try simp only [List.size_toArray, Array.size_push, List.length_append, List.length_cons, List.length_nil]); omega)); intro _ _ _ _ l1'; (try k_lt l1'); (try (revert l1'; intro _)); (try k_sweep)) | ((with_reducible show wpAny _ _ (subscriptTail _ _ (Value.ref _) (Value.int _ _)) _ _ _); k_dflt (first | refine list_item (by k_asm) (by k_mem) (by decide) (by decide) (by assumption) ?_ (by with_unfolding_all rfl) | refine item_tupleT (by assumption) (by decide) (by decide) (by rfl) (by rfl) ?_)) | ((with_reducible show wpAny _ _ (binaryOp Operator.Add (Value.str _ _) (Value.str _ _)) _ _ _); k_dflt (refine SB.add ?_ (add_fits (by walk_at "m_len") (by walk_at "m_len") (by decide +kernel)); intro _ _; (try dsimp only))) | ((with_reducible show wpAny _ _ (call (Value.builtin "len") [Value.str _ _]) _ _ _); k_dflt (refine len_str_ok (Nat.le_trans (by walk_at "m_len") (by decide +kernel)) ?_; (try dsimp only))) | ((with_reducible show wpAny _ _ (call (Value.builtin "list.append") [Value.ref _, _]) _ _ _); k_dflt (refine append_K (by k_asm) (by k_asm) (by k_upd) ?_ (by refine size_ok ?_; (try simp only [List.size_toArray]); omega); k_whole); intro _ _ _; (try k_sweep)) | ((with_reducible show wpAny _ _ (storeName (compEnvC _ _ _ _) _ _) _ _ _); k_dflt (refine cc_store (by assumption) (by assumption) (by exact rfl) (by exact rfl) ?_); intro _ _ _; (try k_sweep)) | ((with_reducible show wpAny _ _ (eval (Expr.Name _ _) (compEnvC _ _ _ _)) _ _ _); k_dflt (refine cc_load (by assumption) (by exact rfl) ?_ (by exact rfl) (by exact rfl) (by exact rfl))) | ((with_reducible show wpAny _ _ _ _ _ _); (fail_if_success (with_reducible first | show wpAny _ _ (exec (Stmt.For _ _ _ _ _) _) _ _ _ | show wpAny _ _ (exec (Stmt.While _ _ _ _) _) _ _ _ | show wpAny _ _ (pyIter _) _ _ _ | show wpAny _ _ (call (Value.builtin "list.pop") _ _) _ _ _ | show wpAny _ _ (call (Value.builtin "str.join") _ _) _ _ _ | show wpAny _ _ (call (Value.builtin "max") _ _) _ _ _ | show wpAny _ _ (setItem _ _ _) _ _ _ | show wpAny _ _ (call (Value.builtin "str.replace") _ _) _ _ _ | show wpAny _ _ (call (Value.builtin "str.split") _ _) _ _ _ | show wpAny _ _ (call (Value.ref _) _ _) _ _ _ | show wpAny _ _ (eval (Expr.ListComp _ _ _ _) _) _ _ _ | show wpAny _ _ (exec (Stmt.Assign _ (Expr.ListComp _ _ _ _) _) _) _ _ _)); first | walk1 | (dsimp only; walk1)) | ((with_reducible show Frag.In _ _ ∧ _); (refine ⟨by k_in, ?_⟩); (try dsimp only [List.nil_append, List.cons_append])) | ((with_reducible show (if _ then _ else _)); walk1))
           rename_i Dn _ hDn _ _ _ _ _ h16 F16 N16
           rw [show (some (-7 : Int)) = some (-((7 : Nat) : Int)) from rfl, slicePick_butLast _ 7 (by decide)] at N16
           change News s.heap s.heap.objs.size h16 ((Dn, W.listOf (butL 7 (pvs ++ [Value.ref D'])).toArray 0) :: (Dt, W.listOf tv.toArray 0) :: (D', tupObj (i : Nat) ((rrun row.cps.toList i).gap : Nat) ti tg) :: (I, oI) :: (ap, W.listOf (pvs ++ [Value.ref D']).toArray (pk + 1)) :: (ar, W.listOf rvs3.toArray rk3) :: tups) at N16
           have hDnt := all_of_lt hDn.2.2.2.2.2
           refine ⟨_, _, _, _, (Dn, W.listOf (butL 7 (pvs ++ [Value.ref D'])).toArray 0) :: (ar, W.listOf rvs3.toArray rk3) :: (D', tupObj (i : Nat) ((rrun row.cps.toList i).gap : Nat) ti tg) :: tups, rfl, F16, kst_newsOf N16 (by kst_allIn), ?_, Dn, _, _, _, rvs3, rk3, butL 7 (pvs ++ [Value.ref D']), 0, _, by rw [hstep]; kst_all, rfl, ?_, ?_, ?_, ?_, ?_, ?_, rfl⟩
           · intro q hq
             rcases List.mem_cons.mp hq with rfl | hq
             · exact neN (by dsimp only; omega)
             rcases List.mem_cons.mp hq with rfl | hq
             · exact hoff2
             rcases List.mem_cons.mp hq with rfl | hq
             · exact neN (by dsimp only; omega)
             · exact hoff3 q hq
           · rw [hstep]; exact hri3
           · rw [hstep]; exact pairs_but hpi'
           · rw [hstep]; exact hbut
           · intro q hq
             rcases List.mem_cons.mp hq with rfl | hq
             · exact neN (by dsimp only; omega)
             · exact neN (Nat.ne_of_lt (hDnt q hq))
           · intro q hq
             rcases List.mem_cons.mp hq with rfl | hq
             · exact neN (by dsimp only; omega)
             · exact har q hq
           · exact neN (by omega)
     · rename_i D' _ hD' _ _ _ _ _ _ _ _ h4 _ _ F4 N4 _ heq
       have hstep : rrun row.cps.toList (i + 1) = ⟨(rrun row.cps.toList i).rounds, (rrun row.cps.toList i).pile ++ [(i, (rrun row.cps.toList i).gap)], (rrun row.cps.toList i).seen ++ [row.cps.toList.getD i 0], 0⟩ := by
         show rstep _ _ _ = _
         unfold rstep
         rw [if_neg]
         rw [← hlast]
         exact unk_ne heq
       rw [List.push_toArray] at N4
       refine ⟨_, _, _, _, (ap, W.listOf (pvs ++ [Value.ref D']).toArray (pk + 1)) :: (ar, W.listOf rvs.toArray rk) :: (D', tupObj (i : Nat) ((rrun row.cps.toList i).gap : Nat) ti tg) :: tups, rfl, F4, kst_newsOf N4 (by kst_allIn), ?_, ap, _, _, _, rvs, rk, pvs ++ [Value.ref D'], pk + 1, _, by rw [hstep]; kst_all, rfl, ?_, ?_, ?_, ?_, ?_, ?_, rfl⟩
       · intro q hq
         rcases List.mem_cons.mp hq with rfl | hq
         · exact hoff1
         rcases List.mem_cons.mp hq with rfl | hq
         · exact hoff2
         rcases List.mem_cons.mp hq with rfl | hq
         · exact neN (by dsimp only; omega)
         · exact hoff3 q hq
       · rw [hstep]; exact hri
       · rw [hstep]; exact pairs_snoc (.head _) (pairs_mono (fun x hx => .tail _ hx) hpi)
       · rw [hstep]; exact hsc
       · intro q hq
         rcases List.mem_cons.mp hq with rfl | hq
         · exact neN (by dsimp only; omega)
         · exact hap q hq
       · intro q hq
         rcases List.mem_cons.mp hq with rfl | hq
         · exact neN (by dsimp only; omega)
         · exact har q hq
       · exact hne
   · rintro h2 tk2 g m2 news2 htk2 F2 N2 ⟨ap, sn, tsn, tg, rvs, rk, pvs, pk, tups, hm, rfl, hri, hpi, hsn, hap, har, hne, rfl⟩
     replace F2 := fr_kst _ F2 hm
     simp only [kstB] at F2
     change Fr s.heap s.heap.objs.size h2 _ at F2
     change News s.heap s.heap.objs.size h2 _ at N2
     clear hm F1 N1
     dsimp only
     (try k_fold)
     repeat' (first | (k_unfold; (try dsimp only)) | ((with_reducible show wpAny _ _ (execs (_ :: _) _) _ _ _); refine execs_hide ?_; intro Qk9 kH9; (try dsimp only)) | ((with_reducible rename Hid _ _ _ => kH9); first | (refine hid_next kH9 ?_; clear kH9; (try clear Qk9)) | (refine hid_other kH9 (by nofun) ?_; clear kH9; (try clear Qk9)); (try dsimp only)) | ((with_reducible show wpAny _ _ (subscriptTail _ (PySem.Expr.Slice _ _ none _) (Value.ref _) (Value.ref _)) _ _ _); k_dflt (refine' kmk_slice (by k_asm) (by k_asm) (by kmk_list) (by kmk_part) (by kmk_part) ?_ (by with_unfolding_all rfl) (by kmk_pure) (by refine size_ok ?_; (try simp only [List.size_toArray, Array.size_push, List.length_append, List.length_cons, List.length_nil]); omega)); intro _ _ _ _ l1'; (try k_lt l1'); (try (revert l1'; intro _)); (try k_sweep)) | ((with_reducible show wpAny _ _ (subscriptTail _ _ (Value.ref _) (Value.int _ _)) _ _ _); k_dflt (first | refine list_item (by k_asm) (by k_mem) (by decide) (by decide) (by assumption) ?_ (by with_unfolding_all rfl) | refine item_tupleT (by assumption) (by decide) (by decide) (by rfl) (by rfl) ?_)) | ((with_reducible show wpAny _ _ (binaryOp Operator.Add (Value.str _ _) (Value.str _ _)) _ _ _); k_dflt (refine SB.add ?_ (add_fits (by walk_at "m_len") (by walk_at "m_len") (by decide +kernel)); intro _ _; (try dsimp only))) | ((with_reducible show wpAny _ _ (call (Value.builtin "len") [Value.str _ _]) _ _ _); k_dflt (refine len_str_ok (Nat.le_trans (by walk_at "m_len") (by decide +kernel)) ?_; (try dsimp only))) | ((with_reducible show wpAny _ _ (call (Value.builtin "list.append") [Value.ref _, _]) _ _ _); k_dflt (refine append_K (by k_asm) (by k_asm) (by k_upd) ?_ (by refine size_ok ?_; (try simp only [List.size_toArray]); omega); k_whole); intro _ _ _; (try k_sweep)) | ((with_reducible show wpAny _ _ (storeName (compEnvC _ _ _ _) _ _) _ _ _); k_dflt (refine cc_store (by assumption) (by assumption) (by exact rfl) (by exact rfl) ?_); intro _ _ _; (try k_sweep)) | ((with_reducible show wpAny _ _ (eval (Expr.Name _ _) (compEnvC _ _ _ _)) _ _ _); k_dflt (refine cc_load (by assumption) (by exact rfl) ?_ (by exact rfl) (by exact rfl) (by exact rfl))) | ((with_reducible show wpAny _ _ _ _ _ _); (fail_if_success (with_reducible first | show wpAny _ _ (exec (Stmt.For _ _ _ _ _) _) _ _ _ | show wpAny _ _ (exec (Stmt.While _ _ _ _) _) _ _ _ | show wpAny _ _ (pyIter _) _ _ _ | show wpAny _ _ (call (Value.builtin "list.pop") _ _) _ _ _ | show wpAny _ _ (call (Value.builtin "str.join") _ _) _ _ _ | show wpAny _ _ (call (Value.builtin "max") _ _) _ _ _ | show wpAny _ _ (setItem _ _ _) _ _ _ | show wpAny _ _ (call (Value.builtin "str.replace") _ _) _ _ _ | show wpAny _ _ (call (Value.builtin "str.split") _ _) _ _ _ | show wpAny _ _ (call (Value.ref _) _ _) _ _ _ | show wpAny _ _ (eval (Expr.ListComp _ _ _ _) _) _ _ _ | show wpAny _ _ (exec (Stmt.Assign _ (Expr.ListComp _ _ _ _) _) _) _ _ _)); first | walk1 | (dsimp only; walk1)) | ((with_reducible show Frag.In _ _ ∧ _); (refine ⟨by k_in, ?_⟩); (try dsimp only [List.nil_append, List.cons_append])) | ((with_reducible show (if _ then _ else _)); walk1))
     exact hR _ _ _ _ _ (Fr.keep (by assumption)) (N2 _ (.tail _ (.head _))).2.2 (N2 _ (.tail _ (.head _))).1 hri)
end
end Part_rnd

section Part_flt
section
open Builtin
theorem slot_fnext : Slot "filter" "__next__" "filter.__next__" :=
  .of (owner := "filter") (n := "__next__") (by rw [typeLookup_type, builtinLookup_eq_fast]; kernel_rfl) (by decide +kernel) (by decide +kernel) (by decide +kernel)
    (by first | exact .inl (by decide +kernel) | exact .inr (by decide +kernel)) (by rw [isSubtype_type]; kernel_rfl)
theorem slot_fiter : Slot "filter" "__iter__" "filter.__iter__" :=
  .of (owner := "filter") (n := "__iter__") (by rw [typeLookup_type, builtinLookup_eq_fast]; kernel_rfl) (by decide +kernel) (by decide +kernel) (by decide +kernel)
    (by first | exact .inl (by decide +kernel) | exact .inr (by decide +kernel)) (by rw [isSubtype_type]; kernel_rfl)
theorem slot_finit : Slot "filter" "__init__" "object.__init__" :=
  .of (owner := "object") (n := "__init__") (by rw [typeLookup_type, builtinLookup_eq_fast]; kernel_rfl) (by decide +kernel) (by decide +kernel) (by decide +kernel)
    (by first | exact .inl (by decide +kernel) | exact .inr (by decide +kernel)) (by rw [isSubtype_type]; kernel_rfl)
theorem entry_fnext : entryFor table "filter.__next__" = some Builtin.«filter.__next__» := entryFor_of_tree (by kernel_rfl)
theorem entry_fiter : entryFor table "filter.__iter__" = some Builtin.«dict_keyiterator.__iter__» :=
  entryFor_alias (id' := "dict_keyiterator.__iter__") (by kernel_rfl) (by first | rfl | decide +kernel | (unfold String.splitOn; simp +decide [String.splitOnAux])) (by decide +kernel) (by kernel_rfl)
theorem args_fnext (a : Value) : argsOk "filter.__next__" ⟨[a], []⟩ := by unfold argsOk; kernel_rfl
theorem args_fiter (a : Value) : argsOk "filter.__iter__" ⟨[a], []⟩ := by unfold argsOk; kernel_rfl
theorem mro_filter : mroOf (.type "filter") = pure [.type "filter", .type "object"] := by rw [mroOf_type]; kernel_rfl
theorem lookup_filter_new : typeLookup (.type "filter") "__new__" = pure (some (.builtin "filter.__new__")) := by rw [typeLookup_type, builtinLookup_eq_fast]; kernel_rfl
theorem called_filter : TypeCalled "filter" "filter.__new__" "object.__init__" :=
  ⟨by decide +kernel, by decide +kernel, ⟨_, _, mro_filter⟩, madeBy_type mro_filter lookup_filter_new (by decide +kernel), by decide +kernel, by rw [isSubtype_type]; kernel_rfl, slot_finit⟩
theorem typeCall_filter (a b : Value) : checkTypeCall "filter" ⟨[a, b], []⟩ = pure () := by kernel_rfl
theorem newCall_filter (a b : Value) : checkBuiltinCall "filter.__new__" ⟨[.type "filter", a, b], []⟩ = pure () := by kernel_rfl
theorem entry_filter_new : entryFor table "filter.__new__" = some Builtin.«filter.__new__» := entryFor_of_tree (by kernel_rfl)
theorem sub_filter : isSubtype (.type "filter") (.type "filter") = pure true := by rw [isSubtype_type]; kernel_rfl
def fltObj (It : Addr) : Obj := { cls := .type "filter", data := .fields #[.builtin "len", .ref It] }
def tupItObj (D : Addr) (i : Nat) : Obj := { cls := .type "tuple_iterator", data := .fields #[.ref D, .int i 0] }
theorem meets_filter_new (D : Addr) (items : Array Value) :
    Meets («filter.__new__» ⟨[.type "filter", .builtin "len", .ref D], []⟩) (fun _ R s => IsTup s.heap D items ∧
      R (.ok (.ret (.ref (s.heap.objs.size + 1)))) { s with heap := (s.heap.push (tupItObj D 0)).push (fltObj s.heap.objs.size) }) :=
  .of_wp fun prog w A R s h => by
    obtain ⟨hD, h⟩ := h
    unfold Builtin.«filter.__new__» Builtin.SmallTypes.newClass
    refine wpAny_bind (wpAny_bind (wpAny_of_eq (a := true) (by first | rfl | kernel_rfl) ?_))
    rw [if_neg (by decide)]
    refine wpAny_bind (wpAny_of_eq sub_filter ?_)
    rw [if_neg (by decide)]
    refine wpAny_pure ?_
    refine wpAny_bind (wpAny_of_eq (a := ()) (by rfl) ?_)
    refine wpAny_bind (wpAny_of_eq (a := ()) (by rfl) ?_)
    refine wpAny_bind (PyProof.Rows.iter_tuple hD ?_)
    refine wpAny_bind ?_
    show wpAny _ _ (newObj (.type "filter") (.fields #[.builtin "len", .ref s.heap.objs.size])) _ _ _
    refine wpAny_newObj_type (wpAny_pure ⟨_, rfl, ?_⟩)
    rw [Heap.size_push]
    exact h
theorem call_filter {prog : Program} {w : World} {A : Around} {E : Value → Shared → Prop} {s : Shared} {D : Addr} {items : Array Value} {Q : Value → Shared → Prop} (hD : IsTup s.heap D items)
    (h : Q (.ref (s.heap.objs.size + 1)) { s with heap := (s.heap.push (tupItObj D 0)).push (fltObj s.heap.objs.size) }) : wpAny (model prog w) A (call (.type "filter") [.builtin "len", .ref D]) Q E s := by
  refine callType_new called_filter (by decide) (typeCall_filter _ _) (newCall_filter _ _) (fun obj => F.args_object_init_3 obj _ _) entry_filter_new (meets_filter_new D items) ⟨hD, ?_⟩
  refine ⟨⟨fltObj s.heap.objs.size, ?_, rfl⟩, h⟩
  have e : s.heap.objs.size + 1 = (s.heap.push (tupItObj D 0)).objs.size := (Heap.size_push ..).symm
  show Heap.get? _ _ = _
  rw [e]
  exact Heap.get?_push_size _ rfl
theorem iter_filter {prog : Program} {w : World} {A : Around} {E : Value → Shared → Prop} {s : Shared} {z It : Addr} {Q : Value → Shared → Prop} (hz : s.heap.get? z = some (fltObj It)) (h : Q (.ref z) s) : wpAny (model prog w) A (pyIter (.ref z)) Q E s := by
  have hT : s.TypeIs (.ref z) "filter" := ⟨_, hz, rfl⟩
  refine wpAny_pyIter_slot hT slot_fiter (wpAny_call_entry slot_fiter hT entry_fiter ?_ (args_fiter _))
  show wpAny _ _ (ret (.ref z)) _ _ s
  exact wpAny_pure ⟨_, rfl, "filter", _, hT, slot_fnext.lookup, h⟩
end
end Part_flt

section Part_fln
section
open Builtin
variable {prog : Program} {w : World} {A : Around} {s : Shared}
/-- the exception that ends a walk -/
def StopAt (e : Value) (s : Shared) : Prop := ∃ a o, e = .ref a ∧ s.heap.get? a = some o ∧ o.cls = .type "StopIteration"
/-- a tuple's iterator, called: its next item, or the end -/
theorem tupIt_call {It D : Addr} {j : Nat} {items : Array Value} {Q : Option Value → Shared → Prop} {E : Value → Shared → Prop} (hh : A.handled = none) (hit : s.heap.get? It = some (tupItObj D j)) (hD : IsTup s.heap D items)
    (hi : ∀ x h', items[j]? = some x → h'.get? It = some (tupItObj D (j + 1)) → (∀ b o, b ≠ It → s.heap.get? b = some o → h'.get? b = some o) → Q (some x) { s with heap := h' })
    (he : ∀ e h', items[j]? = none → StopAt e { s with heap := h' } → (∀ b o, b ≠ It → s.heap.get? b = some o → h'.get? b = some o) → E e { s with heap := h' }) :
    wpAny (model prog w) A (callSpecial? (.ref It) (Str.ofString "__next__")) Q E s := by
  have hT : s.TypeIs (.ref It) "tuple_iterator" := ⟨_, hit, rfl⟩
  obtain ⟨ol, hol, _, nl, hdl⟩ := hD
  refine wpAny_callSpecial?_slot (name := Str.ofString "__next__") hT slot_tupleiter_next (wpAny_call_entry slot_tupleiter_next hT entry_tupleiter_next ?_ (args_tupleiter_next _))
  show wpAny _ _ (field (.ref It) 0 >>= _) _ _ s
  refine wpAny_bind (wpAny_field hit rfl (x := .ref D) rfl ?_)
  show wpAny _ _ (if (Value.ref D == Value.none) = true then _ else _) _ _ s
  rw [if_neg (show ¬ ((Value.ref D == Value.none) = true) from Bool.false_ne_true)]
  show wpAny _ _ (field (.ref It) 1 >>= _) _ _ s
  refine wpAny_bind (wpAny_field hit rfl (x := .int j 0) rfl ?_)
  show wpAny _ _ (seqItems? (.ref D) >>= _) _ _ s
  refine wpAny_bind (wpAny_seqItems hol hdl ?_)
  cases hx : items[j]? with
  | some x =>
    simp only [Int.toNat_natCast, hx]
    refine wpAny_bind (wpAny_setField hit rfl (by simp) (wpAny_pure ⟨x, rfl, hi x _ hx ?_ fun b o hb e => (Heap.SameBut.update ..).extBut b o hb e⟩))
    rw [Heap.get?_update_self _ hit (by rfl)]
    simp [tupItObj, Obj.mapFields, rawInt]
  | none =>
    simp only [Int.toNat_natCast, hx]
    refine wpAny_bind (wpAny_rule (wpAny_bind (wpAny_setField hit rfl (by simp) ?_)))
    show wpAny _ _ (newExc (.type "StopIteration") [] >>= _) _ _ _
    refine wpAny_bind ?_
    simp only [newExc, newTuple]
    refine wpAny_bind (wpAny_newObj_type ?_ (by size_fits))
    refine wpAny_bind (m := firstArgMember _ _) (wpAny_of_eq (a := Value.none) (by first | rfl | (simp only [firstArgMember]; rfl)) ?_)
    refine wpAny_newObj_type ?_ (by size_fits)
    simp only [raiseNew]
    refine wpAny_bind (wpAny_handled ?_)
    first | rw [show A.in1.handled = none from hh] | rw [hh]
    refine wpAny_bind (wpAny_pure (wpAny_throw (he _ _ hx ⟨_, _, rfl, Heap.get?_push_size _ rfl, rfl⟩ ?_)))
    exact fun b o hb e => (((Heap.SameBut.update ..).extBut.push _).push _) b o hb e
theorem truthy_len {x : Nat} {t : Tok} {Q : Bool → Shared → Prop} {E : Value → Shared → Prop} (h : Q (decide (x ≠ 0)) s) : wpAny (model prog w) A (truthy (.int (x : Nat) t)) Q E s := by
  refine PyProof.Rows.truthy_int ?_
  have e : (((x : Nat) : Int) != 0) = decide (x ≠ 0) := by
    by_cases hx : x = 0
    · subst hx; rfl
    · simp [hx]
  rw [e]; exact h
/-- filter(len, texts), called: the next text that is not empty, or the end -/
theorem flt_body {z It D : Addr} {vs : List Value} {ts : List Str} (hh : A.handled = none) (hts : StrsAre vs ts) (hlen : ∀ x ∈ ts, x.length ≤ 16777216) (hzI : z ≠ It) (hDI : D ≠ It) :
    ∀ (n j : Nat) (s : Shared) (R : Result → Shared → Prop), ts.length - j = n → j ≤ ts.length → s.heap.get? z = some (fltObj It) → s.heap.get? It = some (tupItObj D j) → IsTup s.heap D vs.toArray →
    (∀ j' x t h' tk, j ≤ j' → ts[j']? = some x → x.length ≠ 0 → (∀ k, j ≤ k → k < j' → ∀ y, ts[k]? = some y → y.length = 0) → h'.get? It = some (tupItObj D (j' + 1)) →
      (∀ b o, b ≠ It → s.heap.get? b = some o → h'.get? b = some o) → R (.ok (.ret (.str x t))) { s with heap := h', toks := tk }) →
    (∀ e h' tk, (∀ k, j ≤ k → ∀ y, ts[k]? = some y → y.length = 0) → StopAt e { s with heap := h', toks := tk } → (∀ b o, b ≠ It → s.heap.get? b = some o → h'.get? b = some o) → R (.error e) { s with heap := h', toks := tk }) →
    wpAny (model prog w) A.in1 (Builtin.«filter.__next__» ⟨[.ref z], []⟩) (fun fin s' => match fin with | .done f => R (.ok f) s' | .again c' => c'.quiet = true ∧ codeAny (model prog w) A c' R s') (fun e s' => R (.error e) s') s := by
  intro n
  induction n with
  | zero =>
    intro j s R hn hj hz hit hD hi he
    have hjl : j = ts.length := by omega
    unfold Builtin.«filter.__next__»
    refine wpAny_bind (wpAny_of_eq (a := (.ref z, [])) (by rfl) ?_)
    refine wpAny_bind (wpAny_field hz rfl (x := .builtin "len") rfl ?_)
    refine wpAny_bind (wpAny_field hz rfl (x := .ref It) rfl ?_)
    refine wpAny_bind (tupIt_call (A := A.in1) hh hit hD (fun x h' hx _ _ => ?_) fun e h' hx hs hk => ?_)
    · rw [List.getElem?_toArray, List.getElem?_eq_none (by rw [strs_len hts]; omega)] at hx
      cases hx
    · refine he e h' s.toks (fun k hk y hy => ?_) hs hk
      have := (List.getElem?_eq_some_iff.mp hy).1
      omega
  | succ n ih =>
    intro j s R hn hj hz hit hD hi he
    have hlt : j < ts.length := by omega
    obtain ⟨t, ht⟩ := StrsAre.get hts j ts[j] (List.getElem?_eq_getElem hlt)
    unfold Builtin.«filter.__next__»
    refine wpAny_bind (wpAny_of_eq (a := (.ref z, [])) (by rfl) ?_)
    refine wpAny_bind (wpAny_field hz rfl (x := .builtin "len") rfl ?_)
    refine wpAny_bind (wpAny_field hz rfl (x := .ref It) rfl ?_)
    refine wpAny_bind (tupIt_call (A := A.in1) hh hit hD (fun x h' hx hit' hk => ?_) fun e h' hx _ _ => ?_)
    · rw [List.getElem?_toArray, ht] at hx
      obtain rfl := Option.some.inj hx
      refine wpAny_bind (wpAny_holding ?_)
      rw [if_neg (show ¬ ((Value.builtin "len" == .none || Value.builtin "len" == .type "bool") = true) by decide)]
      have hle := hlen ts[j] (List.getElem_mem hlt)
      refine wpAny_bind (len_str_ok hle ?_)
      refine wpAny_holding (truthy_len ?_)
      by_cases h0 : ts[j].length = 0
      · rw [show decide (ts[j].length ≠ 0) = false by simp [h0], if_neg Bool.false_ne_true]
        refine wpAny_pure ⟨plainId_quiet slot_fnext.plain _, codeAny_builtin entry_fnext ?_⟩
        rw [Around.under_plainId slot_fnext.plain]
        refine ih (j + 1) _ R (by omega) hlt (hk _ _ hzI hz) hit' (let ⟨o, ho, r⟩ := hD; ⟨o, hk _ _ hDI ho, r⟩) ?_ ?_
        · intro j' x t' h'' tk hj' hx hx0 hmid hit'' hk'
          refine hi j' x t' h'' tk (by omega) hx hx0 (fun k hk1 hk2 y hy => ?_) hit'' fun b o hb e => hk' b o hb (hk b o hb e)
          by_cases hkj : k = j
          · subst hkj
            rw [List.getElem?_eq_getElem hlt] at hy
            rw [← Option.some.inj hy]; exact h0
          · exact hmid k (by omega) hk2 y hy
        · intro e h'' tk hmid hs hk'
          refine he e h'' tk (fun k hk1 y hy => ?_) hs fun b o hb e => hk' b o hb (hk b o hb e)
          by_cases hkj : k = j
          · subst hkj
            rw [List.getElem?_eq_getElem hlt] at hy
            rw [← Option.some.inj hy]; exact h0
          · exact hmid k (by omega) y hy
      · rw [show decide (ts[j].length ≠ 0) = true by simp [h0], if_pos rfl]
        refine wpAny_pure ?_
        exact hi j ts[j] t h' _ (Nat.le_refl _) (List.getElem?_eq_getElem hlt) h0 (fun k h1 h2 => absurd h1 (by omega)) hit' hk
    · rw [List.getElem?_toArray, ht] at hx
      cases hx
theorem flt_code {z It D : Addr} {vs : List Value} {ts : List Str} {j : Nat} {R : Result → Shared → Prop} (hh : A.handled = none) (hts : StrsAre vs ts) (hlen : ∀ x ∈ ts, x.length ≤ 16777216) (hzI : z ≠ It) (hDI : D ≠ It)
    (hj : j ≤ ts.length) (hz : s.heap.get? z = some (fltObj It)) (hit : s.heap.get? It = some (tupItObj D j)) (hD : IsTup s.heap D vs.toArray)
    (hi : ∀ j' x t h' tk, j ≤ j' → ts[j']? = some x → x.length ≠ 0 → (∀ k, j ≤ k → k < j' → ∀ y, ts[k]? = some y → y.length = 0) → h'.get? It = some (tupItObj D (j' + 1)) →
      (∀ b o, b ≠ It → s.heap.get? b = some o → h'.get? b = some o) → R (.ok (.ret (.str x t))) { s with heap := h', toks := tk })
    (he : ∀ e h' tk, (∀ k, j ≤ k → ∀ y, ts[k]? = some y → y.length = 0) → StopAt e { s with heap := h', toks := tk } → (∀ b o, b ≠ It → s.heap.get? b = some o → h'.get? b = some o) → R (.error e) { s with heap := h', toks := tk }) :
    codeAny (model prog w) A (.call (.builtin "filter.__next__") ⟨[.ref z], []⟩) R s :=
  codeAny_call_builtin slot_fnext.plain entry_fnext (slot_fnext.check _ _ _ _ _ _ _ _ ⟨_, hz, rfl⟩ (args_fnext _) (flt_body hh hts hlen hzI hDI _ j s R rfl hj hz hit hD hi he))
/-- the place in the texts behind i that are not empty -/
def nonE (ts : List Str) : List Str := ts.filter fun x => x.length != 0
def FltAt (z It D : Addr) (vs : List Value) (ts : List Str) (i : Nat) (h : Heap) : Prop :=
  ∃ j, j ≤ ts.length ∧ (nonE (ts.take j)).length = i ∧ h.get? z = some (fltObj It) ∧ h.get? It = some (tupItObj D j) ∧ IsTup h D vs.toArray
theorem nonE_none : ∀ {l : List Str}, (∀ x ∈ l, x.length = 0) → nonE l = []
  | [], _ => rfl
  | x :: r, h => by
    unfold nonE
    rw [List.filter_cons, if_neg (by simp [h x (.head _)])]
    exact nonE_none fun y hy => h y (.tail _ hy)
theorem nonE_run {ts : List Str} {j j' : Nat} {x : Str} (hj : j ≤ j') (hx : ts[j']? = some x) (hx0 : x.length ≠ 0) (hmid : ∀ k, j ≤ k → k < j' → ∀ y, ts[k]? = some y → y.length = 0) :
    nonE (ts.take (j' + 1)) = nonE (ts.take j) ++ [x] := by
  have e1 : ts.take (j' + 1) = ts.take j ++ (ts.take j').drop j ++ [x] := by
    rw [List.take_add_one, hx]
    have : ts.take j' = ts.take j ++ (ts.take j').drop j := by
      conv => lhs; rw [← List.take_append_drop j (ts.take j')]
      rw [List.take_take, Nat.min_eq_left hj]
    conv => lhs; rw [this]
    rfl
  have e2 : nonE ((ts.take j').drop j) = [] := nonE_none fun y hy => by
    obtain ⟨k, hk⟩ := List.getElem?_of_mem hy
    rw [List.getElem?_drop] at hk
    have hlt := (List.getElem?_eq_some_iff.mp hk).1
    rw [List.length_take] at hlt
    rw [List.getElem?_take, if_pos (by omega)] at hk
    exact hmid (j + k) (by omega) (by omega) y hk
  rw [e1]
  unfold nonE at e2 ⊢
  rw [List.filter_append, List.filter_append, e2, List.append_nil, List.filter_cons, if_pos (by simp [hx0])]; rfl
theorem walks_filter {z It D : Addr} {vs : List Value} {ts : List Str} (hts : StrsAre vs ts) (hlen : ∀ x ∈ ts, x.length ≤ 16777216) (hzI : z ≠ It) (hDI : D ≠ It) (A : Around) (hh : A.handled = none) :
    Walks prog w A z [z, It, D] [It] (nonE ts).length (fun i v => ∃ x t, (nonE ts)[i]? = some x ∧ v = .str x t) (FltAt z It D vs ts) where
  sub := fun b hb => by simp at hb ⊢; exact .inr (.inl hb)
  frame := fun i h h' st hk => by
    obtain ⟨j, hj, hn, hz, hit, hD⟩ := st
    exact ⟨j, hj, hn, hk z (by simp) _ hz, hk It (by simp) _ hit, let ⟨o, ho, r⟩ := hD; ⟨o, hk D (by simp) _ ho, r⟩⟩
  item := fun i s Q E hi st hQ => by
    obtain ⟨j, hj, hn, hz, hit, hD⟩ := st
    have hT : s.TypeIs (.ref z) "filter" := ⟨_, hz, rfl⟩
    unfold pyNext
    refine wpAny_bind (wpAny_attempt (wpAny_callSpecial?_slot (name := Str.ofString "__next__") hT slot_fnext (wpAny_call (codeAny_mono
      (flt_code (R := fun r s' => ∃ v, r = .ok (.ret v) ∧ Q (some v) s') hh hts hlen hzI hDI hj hz hit hD ?_ ?_) fun r s' h => by obtain ⟨v, rfl, h⟩ := h; exact wpAny_pure h))))
    · intro j' x t h' tk hj' hx hx0 hmid hit' hk
      have hrun := nonE_run hj' hx hx0 hmid
      have hlt := (List.getElem?_eq_some_iff.mp hx).1
      have hget : (nonE ts)[i]? = some x := by
        have e : nonE ts = nonE (ts.take (j' + 1)) ++ nonE (ts.drop (j' + 1)) := by
          unfold nonE; rw [← List.filter_append, List.take_append_drop]
        rw [e, hrun, ← hn]
        simp
      refine ⟨_, rfl, hQ _ h' tk ⟨x, t, hget, rfl⟩ ⟨j' + 1, hlt, by rw [hrun, List.length_append, hn]; rfl, hk _ _ hzI hz, hit', let ⟨o, ho, r⟩ := hD; ⟨o, hk _ _ hDI ho, r⟩⟩ fun b o hb e => hk b o (by simpa using hb) e⟩
    · intro e h' tk hmid _ _
      exfalso
      have e1 : nonE ts = nonE (ts.take j) ++ nonE (ts.drop j) := by
        unfold nonE; rw [← List.filter_append, List.take_append_drop]
      have e2 : nonE (ts.drop j) = [] := nonE_none fun y hy => by
        obtain ⟨k, hk⟩ := List.getElem?_of_mem hy
        rw [List.getElem?_drop] at hk
        exact hmid (j + k) (by omega) y hk
      rw [e1, e2, List.append_nil, hn] at hi
      omega
  done := fun s Q E st hQ => by
    obtain ⟨j, hj, hn, hz, hit, hD⟩ := st
    have hT : s.TypeIs (.ref z) "filter" := ⟨_, hz, rfl⟩
    unfold pyNext
    refine wpAny_bind (wpAny_attempt (wpAny_callSpecial?_slot (name := Str.ofString "__next__") hT slot_fnext (wpAny_call (codeAny_mono
      (flt_code (R := fun r s' => ∃ e, r = .error e ∧ StopAt e s' ∧ Q none s') hh hts hlen hzI hDI hj hz hit hD ?_ ?_) fun r s' h => ?_))))
    · intro j' x t h' tk hj' hx hx0 hmid hit' hk
      exfalso
      have hrun := nonE_run hj' hx hx0 hmid
      have e : nonE ts = nonE (ts.take (j' + 1)) ++ nonE (ts.drop (j' + 1)) := by
        unfold nonE; rw [← List.filter_append, List.take_append_drop]
      have e1 := congrArg List.length e
      rw [hrun, List.length_append, List.length_append, hn, List.length_singleton] at e1
      omega
    · intro e h' tk hmid hs hk
      exact ⟨e, rfl, hs, hQ h' tk fun b o hb e => hk b o (by simpa using hb) e⟩
    · obtain ⟨e, rfl, ⟨a, o, rfl, ho, hc⟩, h⟩ := h
      refine wpAny_bind (wpAny_isInstance (T := "StopIteration") (b := true) ⟨o, ho, hc⟩ isSubtype_stop ?_)
      exact wpAny_pure h
  self := fun i s Q E st hQ => by
    obtain ⟨j, hj, hn, hz, _⟩ := st
    exact iter_filter hz hQ
end
end Part_fln

section Part_gex
/-- the ground with one object struck out -/
def er (P : Addr) (h : Heap) : Heap := h.update P fun _ => { cls := .none, data := .freed }
theorem er_self (P : Addr) (h : Heap) : (er P h).get? P = none := by
  unfold er Heap.update Heap.get?
  simp only [Array.getElem?_modify, if_true]
  cases h.objs[P]? <;> rfl
theorem er_other {P b : Addr} {h : Heap} (hb : b ≠ P) : (er P h).get? b = h.get? b := Heap.get?_update_other _ _ (Ne.symm hb)
theorem er_size (P : Addr) (h : Heap) : (er P h).objs.size = h.objs.size := (Heap.SameBut.update h P _).1
theorem er_keep {P b : Addr} {h : Heap} {o : Obj} (e : (er P h).get? b = some o) : b ≠ P ∧ h.get? b = some o := by
  by_cases hb : b = P
  · subst hb; rw [er_self] at e; cases e
  · rw [er_other hb] at e; exact ⟨hb, e⟩
/-- a def's code object and its table of nested code -/
def Tab (c P : Addr) (h : Heap) : Prop := ∃ ps, h.IsCode c P ps ∧ h.TableAt c P ps
def tabObj (ps : Array Value) : Obj := { cls := .none, data := .fields ps }
theorem Tab.ns_ne {c P a : Addr} {h : Heap} {m : Str → Option Value} (T : Tab c P h) (N : h.Ns a m) : a ≠ P := by
  obtain ⟨ps, _, _, hP⟩ := T
  obtain ⟨o, es, ep, ho, hd, _⟩ := N
  rintro rfl
  rw [hP] at ho; cases ho; cases hd
theorem er_ns {c P a : Addr} {h : Heap} {m : Str → Option Value} (T : Tab c P h) (N : h.Ns a m) : (er P h).Ns a m := by
  have hne := T.ns_ne N
  obtain ⟨o, es, ep, ho, hd, r⟩ := N
  exact ⟨o, es, ep, (er_other hne).trans ho, hd, r⟩
theorem er_top {c P : Addr} {h : Heap} {p : Program} {loose : List Str} {mg mb : Str → Option Value} (T : Tab c P h) (R : TopRead p loose mg mb h) : TopRead p loose mg mb (er P h) := by
  obtain ⟨mc, h1, h2⟩ := R.nolimit
  exact ⟨er_ns T R.g, er_ns T R.b, ⟨mc, er_ns T h1, h2⟩, R.builtins, R.free⟩
theorem er_in {c P : Addr} {h : Heap} {K : Frag} {mg mc : Str → Option Value} (T : Tab c P h) (X : K.In h) (G : h.Ns mainGlobals mg) (S : h.Ns cStatics mc) (hK : kb_classed K = true) : K.In (er P h) := by
  intro a o e
  have ha := X a o e
  have q := List.all_eq_true.mp hK (a, o) (kb_mem e)
  have hne : a ≠ P := by
    simp only [Bool.or_eq_true, decide_eq_true_eq, beq_iff_eq] at q
    rcases q with (q | q) | q
    · rintro rfl
      obtain ⟨ps, _, _, hP⟩ := T
      rw [hP] at ha; cases ha; exact q rfl
    · rw [q]; exact T.ns_ne S
    · rw [q]; exact T.ns_ne G
  exact (er_other hne).trans ha
theorem er_fr {P L : Addr} {h₀ h : Heap} {m : Str → Option Value} (F : Fr h₀ L h m) : Fr (er P h₀) L h m :=
  ⟨F.ns, fun b o e => F.keep b o (er_keep e).2, by rw [er_size]; exact F.above⟩
/-- a heap that has kept all but the table keeps the ground -/
theorem er_stays {P : Addr} {h h' : Heap} (hk : ∀ b o, b ≠ P → h.get? b = some o → h'.get? b = some o) : Stays (er P h) h' := fun b o e => hk b o (er_keep e).1 (er_keep e).2
theorem Tab.lt {c P : Addr} {h : Heap} (T : Tab c P h) : c < h.objs.size ∧ P < h.objs.size := let ⟨_, a, _⟩ := T; a.lt
theorem Tab.ne {c P : Addr} {h : Heap} (T : Tab c P h) : c ≠ P := by
  obtain ⟨ps, a, _⟩ := T
  obtain ⟨_, _, _, _, _, _, _, _, _, _, _, _, _, _, _, _, _, _, _, _, x⟩ := a
  exact x
theorem Tab.keeps {c P : Addr} {h h' : Heap} (T : Tab c P h) (hk : ∀ b o, b = c ∨ b = P → h.get? b = some o → h'.get? b = some o) : Tab c P h' := by
  obtain ⟨ps, ⟨o, vs, file, tf, flags, tg, inF, text, tt, op, a, r1, r2, r3, r4, r5, r6, b, r⟩, ⟨⟨o', vs', a', r'⟩, t⟩⟩ := T
  exact ⟨ps, ⟨o, vs, file, tf, flags, tg, inF, text, tt, op, hk _ _ (.inl rfl) a, r1, r2, r3, r4, r5, r6, hk _ _ (.inr rfl) b, r⟩, ⟨⟨o', vs', hk _ _ (.inl rfl) a', r'⟩, hk _ _ (.inr rfl) t⟩⟩
section
variable {M : Model} {A : Around} {E : Value → Shared → Prop} {s : Shared}
theorem code_any {env : Env} {c P : Addr} {pos : Pos} {qualname : Str} {scope : Scope} {Q : Value → Shared → Prop} (hc : env.code = .ref c) (T : Tab c P s.heap)
    (hQ : ∀ code h' tk, Heap.ExtBut P s.heap h' → s.heap.objs.size ≤ h'.objs.size → Tab c P h' → Q code { s with heap := h', toks := tk }) :
    wpAny M A (genexprCode env pos qualname scope) Q E s := by
  obtain ⟨ps, hok, htab⟩ := T
  cases hnf : codeAmong pos ps.toList with
  | none => exact wpAny_genexprCodeX hc hok htab hnf fun c' h₃ tk₃ hx₃ hge hlt hcode₃ _ htab₃ _ => hQ _ h₃ tk₃ hx₃ (Nat.le_trans hge (Nat.le_of_lt hlt)) ⟨_, hcode₃, htab₃⟩
  | some cv =>
    obtain ⟨o, vs, file, tf, flags, tg, inF, text, tt, op, ho, hd, h11, h2, h7, h9, h10, hop, hpd, htr, hne⟩ := id hok
    unfold genexprCode codeAt
    rw [hc, if_neg (show ¬ ((Value.ref c == Value.none) = true) from Bool.false_ne_true)]
    refine wpAny_bind (wpAny_fieldsOf ho hd ?_)
    rw [h11]
    refine wpAny_bind (wpAny_fieldsOf hop hpd ?_)
    rw [hnf]
    exact wpAny_pure (hQ cv s.heap s.toks (Heap.ExtBut.refl _ _) (Nat.le_refl _) ⟨ps, hok, htab⟩)
end
section
variable {prog : Program} {w : World} {A : Around} {E : Value → Shared → Prop} {s : Shared}
/-- a generator of texts, joined -/
theorem join_keep {L a n : Nat} {fp wr : List Addr} {g : Nat} {St : Nat → Shared → Prop} {F : Nat → Value → Prop} {sep : Str} {t : Tok} {Q : Value → Shared → Prop} {ys : List Str} (W : WalksS prog w A.in4 a fp wr (GenOnlyQ g) n F St) (hst : St 0 s)
    (hT : ∀ i s', St i s' → s'.TypeIs (.ref a) "generator") (ha : a ∈ fp) (hfp : ∀ b ∈ fp, b < s.heap.objs.size) (hwr : ∀ b ∈ wr, L < b) (G : AllBare s.gens)
    (hn : n = ys.length) (hF : ∀ j v, F j v → ∃ x u, ys[j]? = some x ∧ v = .str x u) (hB : ∀ y ∈ ys, y.length ≤ 300) (hz : ys.length * 300 + ys.length * sep.length ≤ 16777216)
    (hQ : ∀ h' gens' tk t', (∀ b o, b ≤ L → s.heap.get? b = some o → h'.get? b = some o) → AllBare gens' → s.toks ≤ tk → Q (.str (Str.join sep ys) t') { s with heap := h', gens := gens', toks := tk }) :
    wpAny (model prog w) A (call (.builtin "str.join") [.str sep t, .ref a]) Q E s := by
  refine wpAny_with_toks (Nat.le_refl s.toks) (SC.joinGen W.in4_2 hT hst hfp ha (fun j v hv => let ⟨x, u, _, e⟩ := hF j v hv; ⟨_, u, e⟩) (fun s' lt hm hacc => ?_) ?_)
  · have hl : lt.map (·.1) = ys := by
      apply List.ext_getElem?
      intro j
      have hsz : lt.length = n := by have := hacc.1; rw [List.size_toArray, strValues_len] at this; exact this
      by_cases hj : j < n
      · have hj' : j < lt.length := hsz ▸ hj
        obtain ⟨x, u, hx, hv⟩ := hF j _ (hacc.2 j (.str lt[j].1 lt[j].2) (by rw [List.getElem?_toArray, strValues_map, List.getElem?_map, List.getElem?_eq_getElem hj']; rfl))
        injection hv with h1 _
        rw [hx, List.getElem?_map, List.getElem?_eq_getElem hj', ← h1]; rfl
      · rw [List.getElem?_eq_none (by rw [List.length_map]; omega), List.getElem?_eq_none (by omega)]
    rw [hl]
    refine ⟨by unfold JoinOk; rw [StrLaws.joinFits hB hz]; rfl, fun t' k htk => ?_⟩
    have hG := G.movedS hm
    obtain ⟨h1, h2, h3, h4, h5⟩ := hm
    obtain ⟨hp, gs, dr, tk, os⟩ := s'
    dsimp only at h1 h2 h3 h4 h5 hG htk ⊢
    subst h3 h4
    have key := hQ hp gs k t' (fun b o hb e => h1 b o (fun hw => absurd (hwr b hw) (Nat.not_lt.mpr hb)) e) hG htk
    show Q (.str (Builtin.Str.glued sep ys) t') _
    rw [StrLaws.glued_eq_join]
    exact key
  · rw [hn, sizeLine_eq]; omega
/-- filter(len, a tuple of texts), on the ledger -/
theorem filter_K {h₀ : Heap} {L D : Addr} {m : Str → Option Value} {news : List (Addr × Obj)} {items : Array Value} {Q : Value → Shared → Prop} (F : Fr h₀ L s.heap m) (N : News h₀ L s.heap news) (hD : (D, ({ cls := .type "tuple", data := .seq items } : Obj)) ∈ news)
    (h : ∀ z It h', Fr h₀ L h' m → News h₀ L h' ((z, fltObj It) :: (It, tupItObj D 0) :: news) → (∀ p ∈ news, p.1 < It) → It < z → L < It → h'.objs.size = z + 1 → Q (.ref z) { s with heap := h' }) :
    wpAny (model prog w) A (call (.type "filter") [.builtin "len", .ref D]) Q E s := by
  refine call_filter (items := items) ⟨_, (N _ hD).1, rfl, _, rfl⟩ ?_
  have F1 := F.push (tupItObj D 0)
  have N1 := News.push F N (tupItObj D 0)
  have F2 := F1.push (fltObj s.heap.objs.size)
  have N2 := News.push F1 N1 (fltObj s.heap.objs.size)
  rw [Heap.size_push] at N2
  exact h _ _ _ F2 N2 (fun q hq => Heap.lt_size (N q hq).1) (Nat.lt_succ_self _) F.ns.lt (by rw [Heap.size_push, Heap.size_push])
abbrev starP : Arguments := { posonlyargs := [], args := [], vararg := some { arg := Str.ofString "args", annotation := none, pos := ⟨5, 15, 5, 19⟩ : PySem.Arg }, kwonlyargs := [], kw_defaults := [], kwarg := none, defaults := [] }
theorem bind_star {name qual : Str} {body : List Stmt} {scope : Scope} {kV doc pm cdv ct : Value} {an : Option Addr} (vals : List Value) :
    bindArgs (fnOf name qual starP body scope .none kV doc pm an cdv ct) ⟨vals, []⟩ = (newTuple vals >>= fun t => pure [(Str.ofString "args", t)]) := by
  have e : seqItems? Value.none = pure none := rfl
  unfold bindArgs
  simp [fnOf, starP, e]
/-- a call of a def of star arguments -/
theorem callStar {K : Frag} {R : Result → Shared → Prop} {name qual : Str} {body : List Stmt} {scope : Scope} {kV doc pm cdv ct oc : Value} {an od : Option Addr} {osl : Array (Option Value)} {f : Addr} {vals : List Value}
    (X : K.In s.heap) (hlim : s.heap.NoLimit)
    (ho : K.lookup f = some ⟨oc, od, .func (fnOf name qual starP body scope .none kV doc pm an cdv ct), osl⟩) (hcd : codeIn K cdv qual = true) (hroom : A.depth < recursionLimit) (hv : vals.length ≤ 1000)
    (hloc : scope.names.lookup (Str.ofString "args") = some .local)
    (h : ∀ h₁, Fr s.heap (s.heap.objs.size + 1) h₁ (fun y => [(Str.ofString "args", Value.ref s.heap.objs.size)].reverse.lookup y) → News s.heap (s.heap.objs.size + 1) h₁ [(s.heap.objs.size, ({ cls := .type "tuple", data := .seq vals.toArray } : Obj))] →
      wpAny (model prog w) (A.deeper (envOf qual scope (s.heap.objs.size + 1) f cdv)) (execs body (envOf qual scope (s.heap.objs.size + 1) f cdv))
        (fun fl s' => R (.ok (.ret (match fl with | .ret v => v | _ => .none))) s') (fun _ _ => False)
        { s with heap := h₁, toks := s.toks + 1 })
    (hco : scope.isCoroutine = false) (hgen : scope.isGenerator = false) (hk : scope.kind = .function)
    (hcell : ∀ x ∈ scope.names, x.2 ≠ .cell) : codeAny (model prog w) A (.call (.ref f) ⟨vals, []⟩) R s := by
  refine codeAny_call_function (fd := fnOf name qual starP body scope .none kV doc pm an cdv ct) hroom (X _ _ ho) rfl hco hgen rfl (codeRec_of X hcd) ?_
  rw [bind_star]
  refine wpAny_bind (wpAny_newTuple (wpAny_pure ?_) (size_ok (by omega)))
  have hk1 : ∀ b o, s.heap.get? b = some o → (s.heap.push { cls := .type "tuple", data := .seq vals.toArray }).get? b = some o := fun b o e => Heap.get?_push_of_some _ e
  refine wpAny_newFunctionEnv (binds := [(Str.ofString "args", Value.ref s.heap.objs.size)]) hcell (by intro y hy; rw [List.mem_singleton.mp hy]; exact hloc) (fun h₁ hns hsb => ⟨(hlim.keeps hk1).fresh _ hsb, ?_⟩) hk
  rw [Heap.size_push] at hns hsb
  have hsz : (s.heap.push { cls := .type "tuple", data := .seq vals.toArray }).objs.size = s.heap.objs.size + 1 := Heap.size_push ..
  have hlow : ∀ b o, (s.heap.push { cls := .type "tuple", data := .seq vals.toArray }).get? b = some o → h₁.get? b = some o := fun b o e =>
    hsb.extBut b o (by have := Heap.lt_size e; rw [hsz] at this; exact Nat.ne_of_lt this) (Heap.get?_push_of_some _ e)
  have F1 : Fr s.heap (s.heap.objs.size + 1) h₁ (fun y => [(Str.ofString "args", Value.ref s.heap.objs.size)].reverse.lookup y) := ⟨hns, fun b o e => hlow b o (hk1 b o e), Nat.le_succ _⟩
  have N1 : News s.heap (s.heap.objs.size + 1) h₁ [(s.heap.objs.size, ({ cls := .type "tuple", data := .seq vals.toArray } : Obj))] := by
    intro q hq
    rw [List.mem_singleton.mp hq]
    exact ⟨hlow _ _ (Heap.get?_push_size _ rfl), Nat.ne_of_lt (Nat.lt_succ_self _), size_none _⟩
  have key := h h₁ F1 N1
  show codeAny _ _ (.func body (envOf qual scope (s.heap.push { cls := .type "tuple", data := .seq vals.toArray }).objs.size f cdv)) _ _
  rw [hsz]
  exact codeAny_func (wpAny_mono key (fun _ _ x => x) (fun _ _ x => x.elim))
end
end Part_gex

section Part_wpl
theorem not_space {c : Nat} (h1 : 33 ≤ c) (h2 : c < 127) : Unicode.isSpace c = false := by
  have h : (List.range 127).all (fun c => decide (c < 33) || !Unicode.isSpace c) = true := by decide +kernel
  have := List.all_eq_true.mp h c (List.mem_range.mpr h2)
  rw [decide_eq_false (by omega), Bool.false_or] at this
  simpa using this
theorem takeWhile_none {goes : Nat → Bool} : ∀ {l : List Nat}, (∀ c ∈ l, goes c = false) → l.takeWhile goes = []
  | [], _ => rfl
  | c :: r, h => by rw [List.takeWhile_cons, h c (.head _)]; rfl
theorem strip_self {x : Str} (h : ∀ c ∈ x.cps.toList, 33 ≤ c ∧ c < 127) : Txt.strip x = x := by
  have hs : ∀ c ∈ x.cps.toList, Unicode.isSpace c = false := fun c hc => not_space (h c hc).1 (h c hc).2
  unfold Txt.strip Txt.stripBy
  rw [if_pos]
  unfold stripSame stripLo stripHi
  rw [if_pos rfl, takeWhile_none hs, if_pos rfl]
  rw [takeWhile_none (fun c hc => hs c (List.mem_of_mem_drop (List.mem_reverse.mp hc)))]
  simp
theorem repl_sign {prog : Program} {w : World} {A : Around} {s : Shared} {E : Value → Shared → Prop} {x y z : Str} {t : Tok} {u v c d : Nat} {Q : Value → Shared → Prop} (hu : 1 ≤ u) (hv : 1 ≤ v) (huv : u ≠ v) (hy : y = ⟨#[c]⟩) (hz : z = ⟨#[d]⟩) (hcd : d ≠ c) (hx : x.length ≤ 400)
    (h : ∀ r t' k, s.toks ≤ k → r.length ≤ 400 → r.cps.toList = x.cps.toList.map (fun k => if k = c then d else k) → Q (.str r t') { s with toks := k }) : wpAny (model prog w) A (call (.builtin "str.replace") [.str x t, .str y u, .str z v]) Q E s := by
  subst hz
  refine repl_tok hu hv huv (one_ne hy hcd) (by omega) (by show 1 ≤ 100; decide) fun t' k hk => ?_
  have e := replace_sign x y c d hy
  exact h _ t' k hk (by rw [len_list, e, List.length_map, ← len_list]; exact hx) e
theorem join_chars : ∀ {ys : List Str}, (∀ y ∈ ys, ∀ c ∈ y.cps.toList, 33 ≤ c ∧ c < 127) → ∀ c ∈ (Str.join (Str.ofString "-") ys).cps.toList, 33 ≤ c ∧ c < 127
  | [], _, c, hc => by
    have e : (Str.join (Str.ofString "-") []).cps.toList = [] := by decide +kernel
    rw [e] at hc; cases hc
  | y :: ys, h, c, hc => by
    rw [join_hy] at hc
    rcases List.mem_append.mp hc with hc | hc
    · exact h y (.head _) c hc
    · obtain ⟨q, hq, hc⟩ := List.mem_flatMap.mp hc
      rcases List.mem_cons.mp hc with rfl | hc
      · decide
      · exact h q (.tail _ hq) c hc
def turn1 (c d k : Nat) : Nat := if k = c then d else k
theorem mface_chain {c : Nat} (h : c ≠ 32) : ((fun k => if k = 41 then 45 else k) ∘ (fun k => if k = 40 then 45 else k) ∘ (fun k => if k = 34 then 45 else k) ∘ (fun k => if k = 59 then 45 else k) ∘ (fun k => if k = 58 then 45 else k) ∘ (fun k => if k = 92 then 45 else k) ∘ (fun k => if k = 47 then 45 else k) ∘ (fun k => if k = 32 then 95 else k)) c = mface c := by
  by_cases h1 : c = 47
  · subst h1; rfl
  by_cases h2 : c = 92
  · subst h2; rfl
  by_cases h3 : c = 58
  · subst h3; rfl
  by_cases h4 : c = 59
  · subst h4; rfl
  by_cases h5 : c = 34
  · subst h5; rfl
  by_cases h6 : c = 40
  · subst h6; rfl
  by_cases h7 : c = 41
  · subst h7; rfl
  simp [mface, h, h1, h2, h3, h4, h5, h6, h7]
theorem repl_len {p z : List Nat} (hp : p ≠ []) (hz : z.length ≤ p.length) : ∀ (n : Nat) (x : List Nat), x.length = n → (replL p z x).length ≤ x.length := by
  intro n
  induction n using Nat.strongRecOn with
  | ind n ih =>
    intro x hn
    have hpl : 0 < p.length := List.length_pos_iff.mpr hp
    by_cases h : p <+: x
    · obtain ⟨r, rfl⟩ := h
      rw [replL_hit hp (List.prefix_append _ _), List.drop_left, List.length_append, List.length_append]
      rw [List.length_append] at hn
      have := ih r.length (by omega) r rfl
      omega
    · cases x with
      | nil => rw [replL_nil]; exact Nat.le_refl _
      | cons c r =>
        rw [replL_miss h, List.length_cons, List.length_cons]
        have := ih r.length (by rw [← hn]; simp) r rfl
        omega
theorem last_item {x : Str} {r : List Nat} {c : Nat} (e : x.cps.toList = r ++ [c]) : Txt.item x (-1) = ⟨#[c]⟩ := by
  have hl : x.length = r.length + 1 := by rw [len_list, e]; simp
  have h := eq_of_beq (item_closes_neg (x := x) (i := -1) (j := (x.length : Int) - 1) (by decide) (by omega) (by omega))
  rw [h]
  have h2 : ((x.length : Int) - 1).toNat = r.length := by omega
  have h3 : x.cps.getD r.length 0 = c := by
    have h4 : x.cps[r.length]? = some c := by rw [← Array.getElem?_toList, e]; simp
    rw [Array.getD_eq_getD_getElem?, h4]; rfl
  rw [h2, h3]
theorem list_last : ∀ (l : List Nat), l ≠ [] → ∃ r c, l = r ++ [c] := fun l h => ⟨l.dropLast, l.getLast h, (List.dropLast_concat_getLast h).symm⟩
theorem hy_list : (Str.ofString "-").cps.toList = [45] := by decide +kernel
theorem last_hy {x : Str} (h : x.length ≠ 0) (e : (Txt.item x (-1) == Str.ofString "-") = true) : ∃ r, x.cps.toList = r ++ [45] := by
  obtain ⟨r, c, hr⟩ := list_last x.cps.toList (by intro e; rw [len_list, e] at h; exact h rfl)
  have h1 := congrArg (fun z : Str => z.cps.toList) ((last_item hr).symm.trans (eq_of_beq e))
  dsimp only at h1
  rw [hy_list] at h1
  have : c = 45 := by simpa using h1
  exact ⟨r, by rw [hr, this]⟩
theorem last_no {x : Str} (e : (Txt.item x (-1) == Str.ofString "-") = false) : x.cps.toList.getLast? ≠ some 45 := by
  intro h
  have hn : x.cps.toList ≠ [] := by intro e; rw [e] at h; cases h
  obtain ⟨r, c, hr⟩ := list_last x.cps.toList hn
  rw [hr, List.getLast?_append] at h
  have hc : c = 45 := by simpa using h
  have h1 : Txt.item x (-1) = Str.ofString "-" := by rw [last_item hr, hc]; exact str_ext hy_list.symm
  rw [h1] at e
  simp at e
theorem slice_cut {x : Str} {r : List Nat} {c : Nat} (e : x.cps.toList = r ++ [c]) : (Txt.slice x none (some (-1))).cps.toList = r := by
  have hl : x.length = r.length + 1 := by rw [len_list, e]; simp
  rw [slice_list]
  have e1 : hiI x.length (some (-1)) = r.length := by show clipI _ _ = _; unfold clipI; rw [if_pos (by decide)]; omega
  rw [e1, e]
  show List.take (r.length - 0) (List.drop 0 (r ++ [c])) = r
  rw [Nat.sub_zero, List.drop_zero, List.take_left]
section
variable {w : World} {A : Around} {s : Shared} {R : Result → Shared → Prop} {p : Program} {loose : List Str} {mg mb : Str → Option Value} {bm : Addr} {ob : Obj}
set_option maxHeartbeats 8000000 in
theorem platform_call {vs : List Value} {ts : List Str} {P : Addr} (X : (hk.heap_1 w.params).In s.heap) (T : TopRead p loose mg mb s.heap) (TB : Tab 27 P s.heap) (BM : BMod s.heap mainGlobals mg bm ob)
  (hA : A.depth < 600) (hU : A.units + 100 < cLine) (hh : A.handled = none) (htk : 1 ≤ s.toks) (G : AllBare s.gens)
  (hts : StrsAre vs ts) (hn : vs.length ≤ 100) (hcs : ∀ x ∈ ts, ∀ c ∈ x.cps.toList, 33 ≤ c ∧ c < 127) (hl : ∀ x ∈ ts, x.length ≤ 300) (hj : (Str.join (Str.ofString "-") (nonE ts)).length ≤ 400)
  (hR : ∀ h' gens' tk r t, (∀ b o, b ≠ P → s.heap.get? b = some o → h'.get? b = some o) → Tab 27 P h' → AllBare gens' → s.toks ≤ tk → r.cps.toList = sqz false (replL unk [] ((Str.join (Str.ofString "-") (nonE ts)).cps.toList.map mface)) →
    R (.ok (.ret (.str r t))) { s with heap := h', gens := gens', toks := tk }) :
  codeAny (model lw.row.prog w) A (.call (.ref 28) ⟨vs, []⟩) R s := by
  revert X
  k_fill
  intro X
  w_strict (
   w_top off
   refine' callStar (vals := vs) ?k1 ?k2 ?k3 ?k4 ?k5 ?k6 ?k7 ?_ ?c1 ?c2 ?c3 ?c4
   (case k1 => exact X)
   (case k2 => exact T.nolimit)
   (case k3 => k_is)
   (case k4 => k_is)
   (case k5 => show A.depth < 1000; omega)
   (case k6 => omega)
   (case k7 => exact rfl)
   (case c1 => exact rfl)
   (case c2 => exact rfl)
   (case c3 => exact rfl)
   (case c4 => decide)
   intro h₁ F0 N0
   have F := er_fr (P := P) F0
   obtain ⟨ps, hok, htab⟩ := id TB
   obtain ⟨mc, hmc, _⟩ := id T.nolimit
   have Xe := er_in TB X T.g hmc (by unfold kb_classed; rfl)
   have Te := er_top TB T
   have hPlt := TB.lt.2
   have N : News (er P s.heap) (s.heap.objs.size + 1) h₁ [(P, tabObj ps), (s.heap.objs.size, ({ cls := .type "tuple", data := .seq vs.toArray } : Obj))] := by
     intro q hq
     rcases List.mem_cons.mp hq with rfl | hq
     · exact ⟨F0.keep _ _ htab.2, Nat.ne_of_lt (Nat.lt_succ_of_lt hPlt), er_self _ _⟩
     · rw [List.mem_singleton.mp hq]
       exact ⟨(N0 _ (.head _)).1, (N0 _ (.head _)).2.1, (er_other (Nat.ne_of_gt hPlt)).trans (N0 _ (.head _)).2.2⟩
   have Xs := X
   have Ts := T
   clear X T N0
   have htk1 : 1 ≤ s.toks + 1 := by omega
   (try dsimp only); (try k_fold)
   repeat' (first | ((with_reducible show ((_ : Nat) ≤ _ → _)); intro htk9; (try dsimp only at htk9); revert htk9; intro _) | ((with_reducible show wpAny _ _ (execs (_ :: _) _) _ _ _); refine execs_hidt (by first | omega | (dsimp only; omega)) ?_; intro _ _ htk9; (try dsimp only at htk9); revert htk9; intro _ Qk9 kH9; (try dsimp only)) | ((with_reducible show wpAny _ _ (execs [] _) _ _ _); refine wpAny_execs_nil ?_; (try dsimp only)) | (first | (k_unfold; (try dsimp only)) | ((with_reducible show wpAny _ _ (execs (_ :: _) _) _ _ _); refine execs_hide ?_; intro Qk9 kH9; (try dsimp only)) | ((with_reducible rename Hid _ _ _ => kH9); first | (refine hid_next kH9 ?_; clear kH9; (try clear Qk9)) | (refine hid_other kH9 (by nofun) ?_; clear kH9; (try clear Qk9)); (try dsimp only)) | ((with_reducible show wpAny _ _ (binaryOp Operator.Add (Value.str _ _) (Value.str _ _)) _ _ _); k_dflt (refine SB.add ?_ (add_fits (by walk_at "m_len") (by walk_at "m_len") (by decide +kernel)); intro _ _; (try dsimp only))) | ((with_reducible show wpAny _ _ (call (Value.builtin "len") [Value.str _ _]) _ _ _); k_dflt (refine len_str_ok (Nat.le_trans (by walk_at "m_len") (by decide +kernel)) ?_; (try dsimp only))) | ((with_reducible show wpAny _ _ (call (Value.builtin "list.append") [Value.ref _, _]) _ _ _); k_dflt (refine append_K (by k_asm) (by k_asm) (by k_upd) ?_ (by refine size_ok ?_; (try simp only [List.size_toArray]); omega); k_whole); intro _ _ _; (try k_sweep)) | ((with_reducible show wpAny _ _ (storeName (compEnvC _ _ _ _) _ _) _ _ _); k_dflt (refine cc_store (by assumption) (by assumption) (by exact rfl) (by exact rfl) ?_); intro _ _ _; (try k_sweep)) | ((with_reducible show wpAny _ _ (eval (Expr.Name _ _) (compEnvC _ _ _ _)) _ _ _); k_dflt (refine cc_load (by assumption) (by exact rfl) ?_ (by exact rfl) (by exact rfl) (by exact rfl))) | ((with_reducible show wpAny _ _ _ _ _ _); (fail_if_success (with_reducible first | show wpAny _ _ (exec (Stmt.For _ _ _ _ _) _) _ _ _ | show wpAny _ _ (exec (Stmt.While _ _ _ _) _) _ _ _ | show wpAny _ _ (pyIter _) _ _ _ | show wpAny _ _ (call (Value.builtin "list.pop") _ _) _ _ _ | show wpAny _ _ (call (Value.builtin "str.join") _ _) _ _ _ | show wpAny _ _ (call (Value.builtin "max") _ _) _ _ _ | show wpAny _ _ (setItem _ _ _) _ _ _ | show wpAny _ _ (call (Value.builtin "str.replace") _ _) _ _ _ | show wpAny _ _ (call (Value.builtin "str.split") _ _) _ _ _ | show wpAny _ _ (call (Value.ref _) _ _) _ _ _ | show wpAny _ _ (eval (Expr.ListComp _ _ _ _) _) _ _ _ | show wpAny _ _ (exec (Stmt.Assign _ (Expr.ListComp _ _ _ _) _) _) _ _ _)); first | walk1 | (dsimp only; walk1)) | ((with_reducible show Frag.In _ _ ∧ _); (refine ⟨by k_in, ?_⟩); (try dsimp only [List.nil_append, List.cons_append])) | ((with_reducible show (if _ then _ else _)); walk1)))
   rename_i tk0 htk0 htk0'
   refine wpAny_GeneratorExp_walksQ (cl := []) hh (by exact rfl) (by exact rfl) (by decide) (by exact rfl) (by exact rfl) (by exact rfl) ?_ ?_ (by intro _; exact rfl)
   · show A.depth + 1 < 1000; omega
   repeat' (first | (k_unfold; (try dsimp only)) | ((with_reducible show wpAny _ _ (execs (_ :: _) _) _ _ _); refine execs_hide ?_; intro Qk9 kH9; (try dsimp only)) | ((with_reducible rename Hid _ _ _ => kH9); first | (refine hid_next kH9 ?_; clear kH9; (try clear Qk9)) | (refine hid_other kH9 (by nofun) ?_; clear kH9; (try clear Qk9)); (try dsimp only)) | ((with_reducible show wpAny _ _ (binaryOp Operator.Add (Value.str _ _) (Value.str _ _)) _ _ _); k_dflt (refine SB.add ?_ (add_fits (by walk_at "m_len") (by walk_at "m_len") (by decide +kernel)); intro _ _; (try dsimp only))) | ((with_reducible show wpAny _ _ (call (Value.builtin "len") [Value.str _ _]) _ _ _); k_dflt (refine len_str_ok (Nat.le_trans (by walk_at "m_len") (by decide +kernel)) ?_; (try dsimp only))) | ((with_reducible show wpAny _ _ (call (Value.builtin "list.append") [Value.ref _, _]) _ _ _); k_dflt (refine append_K (by k_asm) (by k_asm) (by k_upd) ?_ (by refine size_ok ?_; (try simp only [List.size_toArray]); omega); k_whole); intro _ _ _; (try k_sweep)) | ((with_reducible show wpAny _ _ (storeName (compEnvC _ _ _ _) _ _) _ _ _); k_dflt (refine cc_store (by assumption) (by assumption) (by exact rfl) (by exact rfl) ?_); intro _ _ _; (try k_sweep)) | ((with_reducible show wpAny _ _ (eval (Expr.Name _ _) (compEnvC _ _ _ _)) _ _ _); k_dflt (refine cc_load (by assumption) (by exact rfl) ?_ (by exact rfl) (by exact rfl) (by exact rfl))) | ((with_reducible show wpAny _ _ _ _ _ _); (fail_if_success (with_reducible first | show wpAny _ _ (exec (Stmt.For _ _ _ _ _) _) _ _ _ | show wpAny _ _ (exec (Stmt.While _ _ _ _) _) _ _ _ | show wpAny _ _ (pyIter _) _ _ _ | show wpAny _ _ (call (Value.builtin "list.pop") _ _) _ _ _ | show wpAny _ _ (call (Value.builtin "str.join") _ _) _ _ _ | show wpAny _ _ (call (Value.builtin "max") _ _) _ _ _ | show wpAny _ _ (setItem _ _ _) _ _ _ | show wpAny _ _ (call (Value.builtin "str.replace") _ _) _ _ _ | show wpAny _ _ (call (Value.builtin "str.split") _ _) _ _ _ | show wpAny _ _ (call (Value.ref _) _ _) _ _ _ | show wpAny _ _ (eval (Expr.ListComp _ _ _ _) _) _ _ _ | show wpAny _ _ (exec (Stmt.Assign _ (Expr.ListComp _ _ _ _) _) _) _ _ _)); first | walk1 | (dsimp only; walk1)) | ((with_reducible show Frag.In _ _ ∧ _); (refine ⟨by k_in, ?_⟩); (try dsimp only [List.nil_append, List.cons_append])) | ((with_reducible show (if _ then _ else _)); walk1))
   refine filter_K F N (.tail _ (.head _)) ?_
   intro z It h2 F2 N2 hlt1 hlt2 hLIt hsz2
   have hIt1 : @LT.lt Nat _ P It := hlt1 _ (.head _)
   have hP0 : @LT.lt Nat _ P s.heap.objs.size := hPlt
   have hIt2 : (s.heap.objs.size : Nat) < It := hlt1 _ (.tail _ (.head _))
   have hzI : @LT.lt Nat _ It z := hlt2
   refine iter_filter (N2 _ (.head _)).1 ?_
   have k2 : ∀ b o, b ≠ P → s.heap.get? b = some o → h2.get? b = some o := fun b o hb e => F2.keep b o ((er_other hb).trans e)
   have T2 : Tab 27 P h2 := TB.keeps fun b o hb e => by
     rcases hb with rfl | rfl
     · exact k2 _ _ TB.ne e
     · rw [htab.2] at e; cases e; exact (N2 (_, tabObj ps) (by simp)).1
   refine ⟨(Te.keeps F2.keep).nolimit, code_any (c := 27) rfl T2 ?_⟩
   intro code h3 tk3 hx3 hsz3 T3
   dsimp only at hx3 hsz3
   have k3 : ∀ b o, b ≠ P → s.heap.get? b = some o → h3.get? b = some o := fun b o hb e => hx3 b o hb (k2 b o hb e)
   have F3 : Fr (er P s.heap) (s.heap.objs.size + 1) h3 _ := ⟨F2.ns.extBut hx3 (Nat.ne_of_gt (Nat.lt_succ_of_lt hPlt)), fun b o e => k3 b o (er_keep e).1 (er_keep e).2, F2.above⟩
   have BM3 := BM.extBut htab k3
   refine wpAny_builtinsFor BM3.ns BM3.name BM3.ne BM3.obj BM3.cls BM3.dict BM3.data ?_
   have hcst : (2 : Nat) < s.heap.objs.size := hmc.lt
   refine ⟨z, [z, It, s.heap.objs.size], [It], (nonE ts).length, _, FltAt z It s.heap.objs.size vs ts, fun _ => true, fun i v => ∃ x u, (nonE ts)[i]? = some x ∧ v = .str x u, rfl, fun A' hA' => walks_filter hts (fun x hx => Nat.le_trans (hl x hx) (by decide)) (neN (Nat.ne_of_gt hzI)) (neN (Nat.ne_of_lt hIt2)) A' hA', ?_, ?_, (Te.keeps F3.keep).nolimit, ?_, ?_, ?_⟩
   · refine ⟨0, Nat.zero_le _, rfl, hx3 _ _ (neN (by omega)) (N2 _ (.head _)).1, hx3 _ _ (neN (by omega)) (N2 _ (.tail _ (.head _))).1, _, hx3 _ _ (neN (by omega)) (N2 _ (.tail _ (.tail _ (.tail _ (.head _))))).1, rfl, _, rfl⟩
   · intro b hb
     simp only [List.mem_cons, List.not_mem_nil, or_false] at hb
     have h8 : @LE.le Nat _ (Nat.succ z) h2.objs.size := Nat.le_of_eq hsz2.symm
     have h9 : @LT.lt Nat _ z h3.objs.size := Nat.lt_of_lt_of_le h8 hsz3
     rcases hb with rfl | rfl | rfl
     · exact h9
     · exact Nat.lt_trans hzI h9
     · exact Nat.lt_trans hIt2 (Nat.lt_trans hzI h9)
   · intro h
     have := List.mem_singleton.mp h
     have h9 : (2 : Nat) = It := this
     omega
   · intro href hkr
     refine ⟨fun A' E' i v s₂ m₂ hA' hP hn2 hm2 _ => wpAny_pure ⟨rfl, s₂.heap, s₂.toks, rfl, fun _ _ e => e⟩, fun A' E' i v s₂ m₂ hA' hP _ hn2 hm2 _ => ?_⟩
     obtain ⟨x, u, hx, rfl⟩ := hP
     have hxm : x ∈ ts := (List.mem_filter.mp (List.mem_of_getElem? hx)).1
     refine Call_method0 (by exact rfl) (by exact rfl) (ldG hn2 hm2 (SB.strip (fun t' k => ?_) ?_))
     · rw [strip_self (hcs x hxm)]
       exact ⟨⟨x, t', hx, rfl⟩, _, _, rfl, fun _ _ e => e⟩
     · exact size_ok (Nat.le_trans (hl x hxm) (by decide))
   intro a h5 tk5 gs hgs ha5 hsz5 hk5 W hat
   dsimp only at ha5 hsz5 hk5
   have hpass : (passing (fun _ => true) (nonE ts).length 0) = List.range (nonE ts).length := by
     unfold passing; rw [List.drop_zero, List.filter_eq_self]; intro _ _; rfl
   rw [hpass, List.length_range] at W
   have hnl : (nonE ts).length ≤ 100 := by
     have h1 := List.length_filter_le (fun x : Str => x.length != 0) ts
     have h2 := strs_len hts
     unfold nonE; omega
   have hone : (Str.ofString "-").length = 1 := by decide +kernel
   repeat' (first | (k_unfold; (try dsimp only)) | ((with_reducible show wpAny _ _ (execs (_ :: _) _) _ _ _); refine execs_hide ?_; intro Qk9 kH9; (try dsimp only)) | ((with_reducible rename Hid _ _ _ => kH9); first | (refine hid_next kH9 ?_; clear kH9; (try clear Qk9)) | (refine hid_other kH9 (by nofun) ?_; clear kH9; (try clear Qk9)); (try dsimp only)) | ((with_reducible show wpAny _ _ (binaryOp Operator.Add (Value.str _ _) (Value.str _ _)) _ _ _); k_dflt (refine SB.add ?_ (add_fits (by walk_at "m_len") (by walk_at "m_len") (by decide +kernel)); intro _ _; (try dsimp only))) | ((with_reducible show wpAny _ _ (call (Value.builtin "len") [Value.str _ _]) _ _ _); k_dflt (refine len_str_ok (Nat.le_trans (by walk_at "m_len") (by decide +kernel)) ?_; (try dsimp only))) | ((with_reducible show wpAny _ _ (call (Value.builtin "list.append") [Value.ref _, _]) _ _ _); k_dflt (refine append_K (by k_asm) (by k_asm) (by k_upd) ?_ (by refine size_ok ?_; (try simp only [List.size_toArray]); omega); k_whole); intro _ _ _; (try k_sweep)) | ((with_reducible show wpAny _ _ (storeName (compEnvC _ _ _ _) _ _) _ _ _); k_dflt (refine cc_store (by assumption) (by assumption) (by exact rfl) (by exact rfl) ?_); intro _ _ _; (try k_sweep)) | ((with_reducible show wpAny _ _ (eval (Expr.Name _ _) (compEnvC _ _ _ _)) _ _ _); k_dflt (refine cc_load (by assumption) (by exact rfl) ?_ (by exact rfl) (by exact rfl) (by exact rfl))) | ((with_reducible show wpAny _ _ _ _ _ _); (fail_if_success (with_reducible first | show wpAny _ _ (exec (Stmt.For _ _ _ _ _) _) _ _ _ | show wpAny _ _ (exec (Stmt.While _ _ _ _) _) _ _ _ | show wpAny _ _ (pyIter _) _ _ _ | show wpAny _ _ (call (Value.builtin "list.pop") _ _) _ _ _ | show wpAny _ _ (call (Value.builtin "str.join") _ _) _ _ _ | show wpAny _ _ (call (Value.builtin "max") _ _) _ _ _ | show wpAny _ _ (setItem _ _ _) _ _ _ | show wpAny _ _ (call (Value.builtin "str.replace") _ _) _ _ _ | show wpAny _ _ (call (Value.builtin "str.split") _ _) _ _ _ | show wpAny _ _ (call (Value.ref _) _ _) _ _ _ | show wpAny _ _ (eval (Expr.ListComp _ _ _ _) _) _ _ _ | show wpAny _ _ (exec (Stmt.Assign _ (Expr.ListComp _ _ _ _) _) _) _ _ _)); first | walk1 | (dsimp only; walk1)) | ((with_reducible show Frag.In _ _ ∧ _); (refine ⟨by k_in, ?_⟩); (try dsimp only [List.nil_append, List.cons_append])) | ((with_reducible show (if _ then _ else _)); walk1))
   refine join_keep (L := s.heap.objs.size + 1) (ys := nonE ts) W hat (fun i s' st => st.1.typeIs) List.mem_cons_self ?_ ?_ ?_ rfl ?_ ?_ ?_ ?_
   · intro b hb
     have h0 : @LT.lt Nat _ a h5.objs.size := by rw [hsz5]; exact Nat.lt_succ_self _
     rcases List.mem_cons.mp hb with rfl | hb
     · exact h0
     rcases List.mem_cons.mp hb with rfl | hb
     · exact Nat.lt_trans ha5 h0
     · exact Nat.lt_trans (List.mem_range.mp hb) (Nat.lt_trans ha5 h0)
   · intro b hb
     have h8 : @LE.le Nat _ (Nat.succ z) h2.objs.size := Nat.le_of_eq hsz2.symm
     have h9 : @LT.lt Nat _ z h3.objs.size := Nat.lt_of_lt_of_le h8 hsz3
     rcases List.mem_cons.mp hb with rfl | hb
     · have : @LT.lt Nat _ (s.heap.objs.size + 1) h3.objs.size := by omega
       exact this
     · rw [List.mem_singleton.mp hb]
       exact hLIt
   · exact AllBare.push G hgs
   · rintro j v ⟨i, hi, x, u, hx, rfl⟩
     have hij : i = j := by
       obtain ⟨h1, h2⟩ := List.getElem?_eq_some_iff.mp hi
       rw [List.getElem_range] at h2
       exact h2.symm
     subst hij
     exact ⟨x, u, hx, rfl⟩
   · intro y hy
     exact hl y (List.mem_filter.mp hy).1
   · rw [hone]; omega
   intro h6 gens6 tk6 t6 hk6 G6 htk6
   dsimp only at hk6 htk6
   have T5 : Tab 27 P h5 := T3.keeps fun b o _ e => hk5 b o e
   have T6 : Tab 27 P h6 := T5.keeps fun b o hb e => hk6 b o (by
     rcases hb with rfl | rfl
     · exact Nat.le_of_lt (Nat.lt_succ_of_lt TB.lt.1)
     · exact Nat.le_of_lt (Nat.lt_succ_of_lt hPlt)) e
   have k6 : ∀ b o, b ≠ P → s.heap.get? b = some o → h6.get? b = some o := fun b o hb e => hk6 b o (Nat.le_of_lt (Nat.lt_succ_of_lt (Heap.lt_size e))) (hk5 b o (k3 b o hb e))
   have F6 : Fr (er P s.heap) (s.heap.objs.size + 1) h6 _ := ⟨F3.ns.at' fun o e => hk6 _ o (Nat.le_refl _) (hk5 _ o e), fun b o e => k6 b o (er_keep e).1 (er_keep e).2, F3.above⟩
   obtain ⟨ps6, hok6, htab6⟩ := id T6
   have N6 : News (er P s.heap) (s.heap.objs.size + 1) h6 [(P, tabObj ps6)] := by
     intro q hq
     rw [List.mem_singleton.mp hq]
     exact ⟨htab6.2, Nat.ne_of_lt (Nat.lt_succ_of_lt hPlt), er_self _ _⟩
   have kp6 := k6
   clear W hat hpass F3 F2 N2 F N hx3 T3 T2 T5 k3 k2 hk5 hk6 BM3 F0
   have hx0c := join_chars (ys := nonE ts) fun y hy c hc => hcs y (List.mem_filter.mp hy).1 c hc
   generalize hx0 : Str.join (Str.ofString "-") (nonE ts) = x0 at hR hj hx0c
   repeat' (first | ((with_reducible show ((_ : Nat) ≤ _ → _)); intro htk9; (try dsimp only at htk9); revert htk9; intro _) | ((with_reducible show wpAny _ _ (execs (_ :: _) _) _ _ _); refine execs_hidt (by first | omega | (dsimp only; omega)) ?_; intro _ _ htk9; (try dsimp only at htk9); revert htk9; intro _ Qk9 kH9; (try dsimp only)) | ((with_reducible show wpAny _ _ (execs [] _) _ _ _); refine wpAny_execs_nil ?_; (try dsimp only)) | (first | (k_unfold; (try dsimp only)) | ((with_reducible show wpAny _ _ (execs (_ :: _) _) _ _ _); refine execs_hide ?_; intro Qk9 kH9; (try dsimp only)) | ((with_reducible rename Hid _ _ _ => kH9); first | (refine hid_next kH9 ?_; clear kH9; (try clear Qk9)) | (refine hid_other kH9 (by nofun) ?_; clear kH9; (try clear Qk9)); (try dsimp only)) | ((with_reducible show wpAny _ _ (binaryOp Operator.Add (Value.str _ _) (Value.str _ _)) _ _ _); k_dflt (refine SB.add ?_ (add_fits (by walk_at "m_len") (by walk_at "m_len") (by decide +kernel)); intro _ _; (try dsimp only))) | ((with_reducible show wpAny _ _ (call (Value.builtin "len") [Value.str _ _]) _ _ _); k_dflt (refine len_str_ok (Nat.le_trans (by walk_at "m_len") (by decide +kernel)) ?_; (try dsimp only))) | ((with_reducible show wpAny _ _ (call (Value.builtin "list.append") [Value.ref _, _]) _ _ _); k_dflt (refine append_K (by k_asm) (by k_asm) (by k_upd) ?_ (by refine size_ok ?_; (try simp only [List.size_toArray]); omega); k_whole); intro _ _ _; (try k_sweep)) | ((with_reducible show wpAny _ _ (storeName (compEnvC _ _ _ _) _ _) _ _ _); k_dflt (refine cc_store (by assumption) (by assumption) (by exact rfl) (by exact rfl) ?_); intro _ _ _; (try k_sweep)) | ((with_reducible show wpAny _ _ (eval (Expr.Name _ _) (compEnvC _ _ _ _)) _ _ _); k_dflt (refine cc_load (by assumption) (by exact rfl) ?_ (by exact rfl) (by exact rfl) (by exact rfl))) | ((with_reducible show wpAny _ _ _ _ _ _); (fail_if_success (with_reducible first | show wpAny _ _ (exec (Stmt.For _ _ _ _ _) _) _ _ _ | show wpAny _ _ (exec (Stmt.While _ _ _ _) _) _ _ _ | show wpAny _ _ (pyIter _) _ _ _ | show wpAny _ _ (call (Value.builtin "list.pop") _ _) _ _ _ | show wpAny _ _ (call (Value.builtin "str.join") _ _) _ _ _ | show wpAny _ _ (call (Value.builtin "max") _ _) _ _ _ | show wpAny _ _ (setItem _ _ _) _ _ _ | show wpAny _ _ (call (Value.builtin "str.replace") _ _) _ _ _ | show wpAny _ _ (call (Value.builtin "str.split") _ _) _ _ _ | show wpAny _ _ (call (Value.ref _) _ _) _ _ _ | show wpAny _ _ (eval (Expr.ListComp _ _ _ _) _) _ _ _ | show wpAny _ _ (exec (Stmt.Assign _ (Expr.ListComp _ _ _ _) _) _) _ _ _)); first | walk1 | (dsimp only; walk1)) | ((with_reducible show Frag.In _ _ ∧ _); (refine ⟨by k_in, ?_⟩); (try dsimp only [List.nil_append, List.cons_append])) | ((with_reducible show (if _ then _ else _)); walk1)))
   refine' repl_sign (c := 32) (d := 95) ?u ?v ?uv (by decide +kernel) (by decide +kernel) (by decide) ?x ?_
   (case u => omega)
   (case v => omega)
   (case uv => omega)
   (case x => assumption)
   intro r1 t1 k1 hk1 hl1 hr1
   dsimp only at hk1
   repeat' (first | ((with_reducible show ((_ : Nat) ≤ _ → _)); intro htk9; (try dsimp only at htk9); revert htk9; intro _) | ((with_reducible show wpAny _ _ (execs (_ :: _) _) _ _ _); refine execs_hidt (by first | omega | (dsimp only; omega)) ?_; intro _ _ htk9; (try dsimp only at htk9); revert htk9; intro _ Qk9 kH9; (try dsimp only)) | ((with_reducible show wpAny _ _ (execs [] _) _ _ _); refine wpAny_execs_nil ?_; (try dsimp only)) | (first | (k_unfold; (try dsimp only)) | ((with_reducible show wpAny _ _ (execs (_ :: _) _) _ _ _); refine execs_hide ?_; intro Qk9 kH9; (try dsimp only)) | ((with_reducible rename Hid _ _ _ => kH9); first | (refine hid_next kH9 ?_; clear kH9; (try clear Qk9)) | (refine hid_other kH9 (by nofun) ?_; clear kH9; (try clear Qk9)); (try dsimp only)) | ((with_reducible show wpAny _ _ (binaryOp Operator.Add (Value.str _ _) (Value.str _ _)) _ _ _); k_dflt (refine SB.add ?_ (add_fits (by walk_at "m_len") (by walk_at "m_len") (by decide +kernel)); intro _ _; (try dsimp only))) | ((with_reducible show wpAny _ _ (call (Value.builtin "len") [Value.str _ _]) _ _ _); k_dflt (refine len_str_ok (Nat.le_trans (by walk_at "m_len") (by decide +kernel)) ?_; (try dsimp only))) | ((with_reducible show wpAny _ _ (call (Value.builtin "list.append") [Value.ref _, _]) _ _ _); k_dflt (refine append_K (by k_asm) (by k_asm) (by k_upd) ?_ (by refine size_ok ?_; (try simp only [List.size_toArray]); omega); k_whole); intro _ _ _; (try k_sweep)) | ((with_reducible show wpAny _ _ (storeName (compEnvC _ _ _ _) _ _) _ _ _); k_dflt (refine cc_store (by assumption) (by assumption) (by exact rfl) (by exact rfl) ?_); intro _ _ _; (try k_sweep)) | ((with_reducible show wpAny _ _ (eval (Expr.Name _ _) (compEnvC _ _ _ _)) _ _ _); k_dflt (refine cc_load (by assumption) (by exact rfl) ?_ (by exact rfl) (by exact rfl) (by exact rfl))) | ((with_reducible show wpAny _ _ _ _ _ _); (fail_if_success (with_reducible first | show wpAny _ _ (exec (Stmt.For _ _ _ _ _) _) _ _ _ | show wpAny _ _ (exec (Stmt.While _ _ _ _) _) _ _ _ | show wpAny _ _ (pyIter _) _ _ _ | show wpAny _ _ (call (Value.builtin "list.pop") _ _) _ _ _ | show wpAny _ _ (call (Value.builtin "str.join") _ _) _ _ _ | show wpAny _ _ (call (Value.builtin "max") _ _) _ _ _ | show wpAny _ _ (setItem _ _ _) _ _ _ | show wpAny _ _ (call (Value.builtin "str.replace") _ _) _ _ _ | show wpAny _ _ (call (Value.builtin "str.split") _ _) _ _ _ | show wpAny _ _ (call (Value.ref _) _ _) _ _ _ | show wpAny _ _ (eval (Expr.ListComp _ _ _ _) _) _ _ _ | show wpAny _ _ (exec (Stmt.Assign _ (Expr.ListComp _ _ _ _) _) _) _ _ _)); first | walk1 | (dsimp only; walk1)) | ((with_reducible show Frag.In _ _ ∧ _); (refine ⟨by k_in, ?_⟩); (try dsimp only [List.nil_append, List.cons_append])) | ((with_reducible show (if _ then _ else _)); walk1)))
   refine' repl_sign (c := 47) (d := 45) ?u ?v ?uv (by decide +kernel) (by decide +kernel) (by decide) ?x ?_
   (case u => omega)
   (case v => omega)
   (case uv => omega)
   (case x => assumption)
   intro r2 t2 k2 hk2 hl2 hr2
   dsimp only at hk2
   repeat' (first | ((with_reducible show ((_ : Nat) ≤ _ → _)); intro htk9; (try dsimp only at htk9); revert htk9; intro _) | ((with_reducible show wpAny _ _ (execs (_ :: _) _) _ _ _); refine execs_hidt (by first | omega | (dsimp only; omega)) ?_; intro _ _ htk9; (try dsimp only at htk9); revert htk9; intro _ Qk9 kH9; (try dsimp only)) | ((with_reducible show wpAny _ _ (execs [] _) _ _ _); refine wpAny_execs_nil ?_; (try dsimp only)) | (first | (k_unfold; (try dsimp only)) | ((with_reducible show wpAny _ _ (execs (_ :: _) _) _ _ _); refine execs_hide ?_; intro Qk9 kH9; (try dsimp only)) | ((with_reducible rename Hid _ _ _ => kH9); first | (refine hid_next kH9 ?_; clear kH9; (try clear Qk9)) | (refine hid_other kH9 (by nofun) ?_; clear kH9; (try clear Qk9)); (try dsimp only)) | ((with_reducible show wpAny _ _ (binaryOp Operator.Add (Value.str _ _) (Value.str _ _)) _ _ _); k_dflt (refine SB.add ?_ (add_fits (by walk_at "m_len") (by walk_at "m_len") (by decide +kernel)); intro _ _; (try dsimp only))) | ((with_reducible show wpAny _ _ (call (Value.builtin "len") [Value.str _ _]) _ _ _); k_dflt (refine len_str_ok (Nat.le_trans (by walk_at "m_len") (by decide +kernel)) ?_; (try dsimp only))) | ((with_reducible show wpAny _ _ (call (Value.builtin "list.append") [Value.ref _, _]) _ _ _); k_dflt (refine append_K (by k_asm) (by k_asm) (by k_upd) ?_ (by refine size_ok ?_; (try simp only [List.size_toArray]); omega); k_whole); intro _ _ _; (try k_sweep)) | ((with_reducible show wpAny _ _ (storeName (compEnvC _ _ _ _) _ _) _ _ _); k_dflt (refine cc_store (by assumption) (by assumption) (by exact rfl) (by exact rfl) ?_); intro _ _ _; (try k_sweep)) | ((with_reducible show wpAny _ _ (eval (Expr.Name _ _) (compEnvC _ _ _ _)) _ _ _); k_dflt (refine cc_load (by assumption) (by exact rfl) ?_ (by exact rfl) (by exact rfl) (by exact rfl))) | ((with_reducible show wpAny _ _ _ _ _ _); (fail_if_success (with_reducible first | show wpAny _ _ (exec (Stmt.For _ _ _ _ _) _) _ _ _ | show wpAny _ _ (exec (Stmt.While _ _ _ _) _) _ _ _ | show wpAny _ _ (pyIter _) _ _ _ | show wpAny _ _ (call (Value.builtin "list.pop") _ _) _ _ _ | show wpAny _ _ (call (Value.builtin "str.join") _ _) _ _ _ | show wpAny _ _ (call (Value.builtin "max") _ _) _ _ _ | show wpAny _ _ (setItem _ _ _) _ _ _ | show wpAny _ _ (call (Value.builtin "str.replace") _ _) _ _ _ | show wpAny _ _ (call (Value.builtin "str.split") _ _) _ _ _ | show wpAny _ _ (call (Value.ref _) _ _) _ _ _ | show wpAny _ _ (eval (Expr.ListComp _ _ _ _) _) _ _ _ | show wpAny _ _ (exec (Stmt.Assign _ (Expr.ListComp _ _ _ _) _) _) _ _ _)); first | walk1 | (dsimp only; walk1)) | ((with_reducible show Frag.In _ _ ∧ _); (refine ⟨by k_in, ?_⟩); (try dsimp only [List.nil_append, List.cons_append])) | ((with_reducible show (if _ then _ else _)); walk1)))
   refine' repl_sign (c := 92) (d := 45) ?u ?v ?uv (by decide +kernel) (by decide +kernel) (by decide) ?x ?_
   (case u => omega)
   (case v => omega)
   (case uv => omega)
   (case x => assumption)
   intro r3 t3 k3 hk3 hl3 hr3
   dsimp only at hk3
   repeat' (first | ((with_reducible show ((_ : Nat) ≤ _ → _)); intro htk9; (try dsimp only at htk9); revert htk9; intro _) | ((with_reducible show wpAny _ _ (execs (_ :: _) _) _ _ _); refine execs_hidt (by first | omega | (dsimp only; omega)) ?_; intro _ _ htk9; (try dsimp only at htk9); revert htk9; intro _ Qk9 kH9; (try dsimp only)) | ((with_reducible show wpAny _ _ (execs [] _) _ _ _); refine wpAny_execs_nil ?_; (try dsimp only)) | (first | (k_unfold; (try dsimp only)) | ((with_reducible show wpAny _ _ (execs (_ :: _) _) _ _ _); refine execs_hide ?_; intro Qk9 kH9; (try dsimp only)) | ((with_reducible rename Hid _ _ _ => kH9); first | (refine hid_next kH9 ?_; clear kH9; (try clear Qk9)) | (refine hid_other kH9 (by nofun) ?_; clear kH9; (try clear Qk9)); (try dsimp only)) | ((with_reducible show wpAny _ _ (binaryOp Operator.Add (Value.str _ _) (Value.str _ _)) _ _ _); k_dflt (refine SB.add ?_ (add_fits (by walk_at "m_len") (by walk_at "m_len") (by decide +kernel)); intro _ _; (try dsimp only))) | ((with_reducible show wpAny _ _ (call (Value.builtin "len") [Value.str _ _]) _ _ _); k_dflt (refine len_str_ok (Nat.le_trans (by walk_at "m_len") (by decide +kernel)) ?_; (try dsimp only))) | ((with_reducible show wpAny _ _ (call (Value.builtin "list.append") [Value.ref _, _]) _ _ _); k_dflt (refine append_K (by k_asm) (by k_asm) (by k_upd) ?_ (by refine size_ok ?_; (try simp only [List.size_toArray]); omega); k_whole); intro _ _ _; (try k_sweep)) | ((with_reducible show wpAny _ _ (storeName (compEnvC _ _ _ _) _ _) _ _ _); k_dflt (refine cc_store (by assumption) (by assumption) (by exact rfl) (by exact rfl) ?_); intro _ _ _; (try k_sweep)) | ((with_reducible show wpAny _ _ (eval (Expr.Name _ _) (compEnvC _ _ _ _)) _ _ _); k_dflt (refine cc_load (by assumption) (by exact rfl) ?_ (by exact rfl) (by exact rfl) (by exact rfl))) | ((with_reducible show wpAny _ _ _ _ _ _); (fail_if_success (with_reducible first | show wpAny _ _ (exec (Stmt.For _ _ _ _ _) _) _ _ _ | show wpAny _ _ (exec (Stmt.While _ _ _ _) _) _ _ _ | show wpAny _ _ (pyIter _) _ _ _ | show wpAny _ _ (call (Value.builtin "list.pop") _ _) _ _ _ | show wpAny _ _ (call (Value.builtin "str.join") _ _) _ _ _ | show wpAny _ _ (call (Value.builtin "max") _ _) _ _ _ | show wpAny _ _ (setItem _ _ _) _ _ _ | show wpAny _ _ (call (Value.builtin "str.replace") _ _) _ _ _ | show wpAny _ _ (call (Value.builtin "str.split") _ _) _ _ _ | show wpAny _ _ (call (Value.ref _) _ _) _ _ _ | show wpAny _ _ (eval (Expr.ListComp _ _ _ _) _) _ _ _ | show wpAny _ _ (exec (Stmt.Assign _ (Expr.ListComp _ _ _ _) _) _) _ _ _)); first | walk1 | (dsimp only; walk1)) | ((with_reducible show Frag.In _ _ ∧ _); (refine ⟨by k_in, ?_⟩); (try dsimp only [List.nil_append, List.cons_append])) | ((with_reducible show (if _ then _ else _)); walk1)))
   refine' repl_sign (c := 58) (d := 45) ?u ?v ?uv (by decide +kernel) (by decide +kernel) (by decide) ?x ?_
   (case u => omega)
   (case v => omega)
   (case uv => omega)
   (case x => assumption)
   intro r4 t4 k4 hk4 hl4 hr4
   dsimp only at hk4
   repeat' (first | ((with_reducible show ((_ : Nat) ≤ _ → _)); intro htk9; (try dsimp only at htk9); revert htk9; intro _) | ((with_reducible show wpAny _ _ (execs (_ :: _) _) _ _ _); refine execs_hidt (by first | omega | (dsimp only; omega)) ?_; intro _ _ htk9; (try dsimp only at htk9); revert htk9; intro _ Qk9 kH9; (try dsimp only)) | ((with_reducible show wpAny _ _ (execs [] _) _ _ _); refine wpAny_execs_nil ?_; (try dsimp only)) | (first | (k_unfold; (try dsimp only)) | ((with_reducible show wpAny _ _ (execs (_ :: _) _) _ _ _); refine execs_hide ?_; intro Qk9 kH9; (try dsimp only)) | ((with_reducible rename Hid _ _ _ => kH9); first | (refine hid_next kH9 ?_; clear kH9; (try clear Qk9)) | (refine hid_other kH9 (by nofun) ?_; clear kH9; (try clear Qk9)); (try dsimp only)) | ((with_reducible show wpAny _ _ (binaryOp Operator.Add (Value.str _ _) (Value.str _ _)) _ _ _); k_dflt (refine SB.add ?_ (add_fits (by walk_at "m_len") (by walk_at "m_len") (by decide +kernel)); intro _ _; (try dsimp only))) | ((with_reducible show wpAny _ _ (call (Value.builtin "len") [Value.str _ _]) _ _ _); k_dflt (refine len_str_ok (Nat.le_trans (by walk_at "m_len") (by decide +kernel)) ?_; (try dsimp only))) | ((with_reducible show wpAny _ _ (call (Value.builtin "list.append") [Value.ref _, _]) _ _ _); k_dflt (refine append_K (by k_asm) (by k_asm) (by k_upd) ?_ (by refine size_ok ?_; (try simp only [List.size_toArray]); omega); k_whole); intro _ _ _; (try k_sweep)) | ((with_reducible show wpAny _ _ (storeName (compEnvC _ _ _ _) _ _) _ _ _); k_dflt (refine cc_store (by assumption) (by assumption) (by exact rfl) (by exact rfl) ?_); intro _ _ _; (try k_sweep)) | ((with_reducible show wpAny _ _ (eval (Expr.Name _ _) (compEnvC _ _ _ _)) _ _ _); k_dflt (refine cc_load (by assumption) (by exact rfl) ?_ (by exact rfl) (by exact rfl) (by exact rfl))) | ((with_reducible show wpAny _ _ _ _ _ _); (fail_if_success (with_reducible first | show wpAny _ _ (exec (Stmt.For _ _ _ _ _) _) _ _ _ | show wpAny _ _ (exec (Stmt.While _ _ _ _) _) _ _ _ | show wpAny _ _ (pyIter _) _ _ _ | show wpAny _ _ (call (Value.builtin "list.pop") _ _) _ _ _ | show wpAny _ _ (call (Value.builtin "str.join") _ _) _ _ _ | show wpAny _ _ (call (Value.builtin "max") _ _) _ _ _ | show wpAny _ _ (setItem _ _ _) _ _ _ | show wpAny _ _ (call (Value.builtin "str.replace") _ _) _ _ _ | show wpAny _ _ (call (Value.builtin "str.split") _ _) _ _ _ | show wpAny _ _ (call (Value.ref _) _ _) _ _ _ | show wpAny _ _ (eval (Expr.ListComp _ _ _ _) _) _ _ _ | show wpAny _ _ (exec (Stmt.Assign _ (Expr.ListComp _ _ _ _) _) _) _ _ _)); first | walk1 | (dsimp only; walk1)) | ((with_reducible show Frag.In _ _ ∧ _); (refine ⟨by k_in, ?_⟩); (try dsimp only [List.nil_append, List.cons_append])) | ((with_reducible show (if _ then _ else _)); walk1)))
   refine' repl_sign (c := 59) (d := 45) ?u ?v ?uv (by decide +kernel) (by decide +kernel) (by decide) ?x ?_
   (case u => omega)
   (case v => omega)
   (case uv => omega)
   (case x => assumption)
   intro r5 t5 k5 hk5 hl5 hr5
   dsimp only at hk5
   repeat' (first | ((with_reducible show ((_ : Nat) ≤ _ → _)); intro htk9; (try dsimp only at htk9); revert htk9; intro _) | ((with_reducible show wpAny _ _ (execs (_ :: _) _) _ _ _); refine execs_hidt (by first | omega | (dsimp only; omega)) ?_; intro _ _ htk9; (try dsimp only at htk9); revert htk9; intro _ Qk9 kH9; (try dsimp only)) | ((with_reducible show wpAny _ _ (execs [] _) _ _ _); refine wpAny_execs_nil ?_; (try dsimp only)) | (first | (k_unfold; (try dsimp only)) | ((with_reducible show wpAny _ _ (execs (_ :: _) _) _ _ _); refine execs_hide ?_; intro Qk9 kH9; (try dsimp only)) | ((with_reducible rename Hid _ _ _ => kH9); first | (refine hid_next kH9 ?_; clear kH9; (try clear Qk9)) | (refine hid_other kH9 (by nofun) ?_; clear kH9; (try clear Qk9)); (try dsimp only)) | ((with_reducible show wpAny _ _ (binaryOp Operator.Add (Value.str _ _) (Value.str _ _)) _ _ _); k_dflt (refine SB.add ?_ (add_fits (by walk_at "m_len") (by walk_at "m_len") (by decide +kernel)); intro _ _; (try dsimp only))) | ((with_reducible show wpAny _ _ (call (Value.builtin "len") [Value.str _ _]) _ _ _); k_dflt (refine len_str_ok (Nat.le_trans (by walk_at "m_len") (by decide +kernel)) ?_; (try dsimp only))) | ((with_reducible show wpAny _ _ (call (Value.builtin "list.append") [Value.ref _, _]) _ _ _); k_dflt (refine append_K (by k_asm) (by k_asm) (by k_upd) ?_ (by refine size_ok ?_; (try simp only [List.size_toArray]); omega); k_whole); intro _ _ _; (try k_sweep)) | ((with_reducible show wpAny _ _ (storeName (compEnvC _ _ _ _) _ _) _ _ _); k_dflt (refine cc_store (by assumption) (by assumption) (by exact rfl) (by exact rfl) ?_); intro _ _ _; (try k_sweep)) | ((with_reducible show wpAny _ _ (eval (Expr.Name _ _) (compEnvC _ _ _ _)) _ _ _); k_dflt (refine cc_load (by assumption) (by exact rfl) ?_ (by exact rfl) (by exact rfl) (by exact rfl))) | ((with_reducible show wpAny _ _ _ _ _ _); (fail_if_success (with_reducible first | show wpAny _ _ (exec (Stmt.For _ _ _ _ _) _) _ _ _ | show wpAny _ _ (exec (Stmt.While _ _ _ _) _) _ _ _ | show wpAny _ _ (pyIter _) _ _ _ | show wpAny _ _ (call (Value.builtin "list.pop") _ _) _ _ _ | show wpAny _ _ (call (Value.builtin "str.join") _ _) _ _ _ | show wpAny _ _ (call (Value.builtin "max") _ _) _ _ _ | show wpAny _ _ (setItem _ _ _) _ _ _ | show wpAny _ _ (call (Value.builtin "str.replace") _ _) _ _ _ | show wpAny _ _ (call (Value.builtin "str.split") _ _) _ _ _ | show wpAny _ _ (call (Value.ref _) _ _) _ _ _ | show wpAny _ _ (eval (Expr.ListComp _ _ _ _) _) _ _ _ | show wpAny _ _ (exec (Stmt.Assign _ (Expr.ListComp _ _ _ _) _) _) _ _ _)); first | walk1 | (dsimp only; walk1)) | ((with_reducible show Frag.In _ _ ∧ _); (refine ⟨by k_in, ?_⟩); (try dsimp only [List.nil_append, List.cons_append])) | ((with_reducible show (if _ then _ else _)); walk1)))
   refine' repl_sign (c := 34) (d := 45) ?u ?v ?uv (by decide +kernel) (by decide +kernel) (by decide) ?x ?_
   (case u => omega)
   (case v => omega)
   (case uv => omega)
   (case x => assumption)
   intro r6 t6 k6 hk6 hl6 hr6
   dsimp only at hk6
   repeat' (first | ((with_reducible show ((_ : Nat) ≤ _ → _)); intro htk9; (try dsimp only at htk9); revert htk9; intro _) | ((with_reducible show wpAny _ _ (execs (_ :: _) _) _ _ _); refine execs_hidt (by first | omega | (dsimp only; omega)) ?_; intro _ _ htk9; (try dsimp only at htk9); revert htk9; intro _ Qk9 kH9; (try dsimp only)) | ((with_reducible show wpAny _ _ (execs [] _) _ _ _); refine wpAny_execs_nil ?_; (try dsimp only)) | (first | (k_unfold; (try dsimp only)) | ((with_reducible show wpAny _ _ (execs (_ :: _) _) _ _ _); refine execs_hide ?_; intro Qk9 kH9; (try dsimp only)) | ((with_reducible rename Hid _ _ _ => kH9); first | (refine hid_next kH9 ?_; clear kH9; (try clear Qk9)) | (refine hid_other kH9 (by nofun) ?_; clear kH9; (try clear Qk9)); (try dsimp only)) | ((with_reducible show wpAny _ _ (binaryOp Operator.Add (Value.str _ _) (Value.str _ _)) _ _ _); k_dflt (refine SB.add ?_ (add_fits (by walk_at "m_len") (by walk_at "m_len") (by decide +kernel)); intro _ _; (try dsimp only))) | ((with_reducible show wpAny _ _ (call (Value.builtin "len") [Value.str _ _]) _ _ _); k_dflt (refine len_str_ok (Nat.le_trans (by walk_at "m_len") (by decide +kernel)) ?_; (try dsimp only))) | ((with_reducible show wpAny _ _ (call (Value.builtin "list.append") [Value.ref _, _]) _ _ _); k_dflt (refine append_K (by k_asm) (by k_asm) (by k_upd) ?_ (by refine size_ok ?_; (try simp only [List.size_toArray]); omega); k_whole); intro _ _ _; (try k_sweep)) | ((with_reducible show wpAny _ _ (storeName (compEnvC _ _ _ _) _ _) _ _ _); k_dflt (refine cc_store (by assumption) (by assumption) (by exact rfl) (by exact rfl) ?_); intro _ _ _; (try k_sweep)) | ((with_reducible show wpAny _ _ (eval (Expr.Name _ _) (compEnvC _ _ _ _)) _ _ _); k_dflt (refine cc_load (by assumption) (by exact rfl) ?_ (by exact rfl) (by exact rfl) (by exact rfl))) | ((with_reducible show wpAny _ _ _ _ _ _); (fail_if_success (with_reducible first | show wpAny _ _ (exec (Stmt.For _ _ _ _ _) _) _ _ _ | show wpAny _ _ (exec (Stmt.While _ _ _ _) _) _ _ _ | show wpAny _ _ (pyIter _) _ _ _ | show wpAny _ _ (call (Value.builtin "list.pop") _ _) _ _ _ | show wpAny _ _ (call (Value.builtin "str.join") _ _) _ _ _ | show wpAny _ _ (call (Value.builtin "max") _ _) _ _ _ | show wpAny _ _ (setItem _ _ _) _ _ _ | show wpAny _ _ (call (Value.builtin "str.replace") _ _) _ _ _ | show wpAny _ _ (call (Value.builtin "str.split") _ _) _ _ _ | show wpAny _ _ (call (Value.ref _) _ _) _ _ _ | show wpAny _ _ (eval (Expr.ListComp _ _ _ _) _) _ _ _ | show wpAny _ _ (exec (Stmt.Assign _ (Expr.ListComp _ _ _ _) _) _) _ _ _)); first | walk1 | (dsimp only; walk1)) | ((with_reducible show Frag.In _ _ ∧ _); (refine ⟨by k_in, ?_⟩); (try dsimp only [List.nil_append, List.cons_append])) | ((with_reducible show (if _ then _ else _)); walk1)))
   refine' repl_sign (c := 40) (d := 45) ?u ?v ?uv (by decide +kernel) (by decide +kernel) (by decide) ?x ?_
   (case u => omega)
   (case v => omega)
   (case uv => omega)
   (case x => assumption)
   intro r7 t7 k7 hk7 hl7 hr7
   dsimp only at hk7
   repeat' (first | ((with_reducible show ((_ : Nat) ≤ _ → _)); intro htk9; (try dsimp only at htk9); revert htk9; intro _) | ((with_reducible show wpAny _ _ (execs (_ :: _) _) _ _ _); refine execs_hidt (by first | omega | (dsimp only; omega)) ?_; intro _ _ htk9; (try dsimp only at htk9); revert htk9; intro _ Qk9 kH9; (try dsimp only)) | ((with_reducible show wpAny _ _ (execs [] _) _ _ _); refine wpAny_execs_nil ?_; (try dsimp only)) | (first | (k_unfold; (try dsimp only)) | ((with_reducible show wpAny _ _ (execs (_ :: _) _) _ _ _); refine execs_hide ?_; intro Qk9 kH9; (try dsimp only)) | ((with_reducible rename Hid _ _ _ => kH9); first | (refine hid_next kH9 ?_; clear kH9; (try clear Qk9)) | (refine hid_other kH9 (by nofun) ?_; clear kH9; (try clear Qk9)); (try dsimp only)) | ((with_reducible show wpAny _ _ (binaryOp Operator.Add (Value.str _ _) (Value.str _ _)) _ _ _); k_dflt (refine SB.add ?_ (add_fits (by walk_at "m_len") (by walk_at "m_len") (by decide +kernel)); intro _ _; (try dsimp only))) | ((with_reducible show wpAny _ _ (call (Value.builtin "len") [Value.str _ _]) _ _ _); k_dflt (refine len_str_ok (Nat.le_trans (by walk_at "m_len") (by decide +kernel)) ?_; (try dsimp only))) | ((with_reducible show wpAny _ _ (call (Value.builtin "list.append") [Value.ref _, _]) _ _ _); k_dflt (refine append_K (by k_asm) (by k_asm) (by k_upd) ?_ (by refine size_ok ?_; (try simp only [List.size_toArray]); omega); k_whole); intro _ _ _; (try k_sweep)) | ((with_reducible show wpAny _ _ (storeName (compEnvC _ _ _ _) _ _) _ _ _); k_dflt (refine cc_store (by assumption) (by assumption) (by exact rfl) (by exact rfl) ?_); intro _ _ _; (try k_sweep)) | ((with_reducible show wpAny _ _ (eval (Expr.Name _ _) (compEnvC _ _ _ _)) _ _ _); k_dflt (refine cc_load (by assumption) (by exact rfl) ?_ (by exact rfl) (by exact rfl) (by exact rfl))) | ((with_reducible show wpAny _ _ _ _ _ _); (fail_if_success (with_reducible first | show wpAny _ _ (exec (Stmt.For _ _ _ _ _) _) _ _ _ | show wpAny _ _ (exec (Stmt.While _ _ _ _) _) _ _ _ | show wpAny _ _ (pyIter _) _ _ _ | show wpAny _ _ (call (Value.builtin "list.pop") _ _) _ _ _ | show wpAny _ _ (call (Value.builtin "str.join") _ _) _ _ _ | show wpAny _ _ (call (Value.builtin "max") _ _) _ _ _ | show wpAny _ _ (setItem _ _ _) _ _ _ | show wpAny _ _ (call (Value.builtin "str.replace") _ _) _ _ _ | show wpAny _ _ (call (Value.builtin "str.split") _ _) _ _ _ | show wpAny _ _ (call (Value.ref _) _ _) _ _ _ | show wpAny _ _ (eval (Expr.ListComp _ _ _ _) _) _ _ _ | show wpAny _ _ (exec (Stmt.Assign _ (Expr.ListComp _ _ _ _) _) _) _ _ _)); first | walk1 | (dsimp only; walk1)) | ((with_reducible show Frag.In _ _ ∧ _); (refine ⟨by k_in, ?_⟩); (try dsimp only [List.nil_append, List.cons_append])) | ((with_reducible show (if _ then _ else _)); walk1)))
   refine' repl_sign (c := 41) (d := 45) ?u ?v ?uv (by decide +kernel) (by decide +kernel) (by decide) ?x ?_
   (case u => omega)
   (case v => omega)
   (case uv => omega)
   (case x => assumption)
   intro r8 t8 k8 hk8 hl8 hr8
   dsimp only at hk8
   repeat' (first | ((with_reducible show ((_ : Nat) ≤ _ → _)); intro htk9; (try dsimp only at htk9); revert htk9; intro _) | ((with_reducible show wpAny _ _ (execs (_ :: _) _) _ _ _); refine execs_hidt (by first | omega | (dsimp only; omega)) ?_; intro _ _ htk9; (try dsimp only at htk9); revert htk9; intro _ Qk9 kH9; (try dsimp only)) | ((with_reducible show wpAny _ _ (execs [] _) _ _ _); refine wpAny_execs_nil ?_; (try dsimp only)) | (first | (k_unfold; (try dsimp only)) | ((with_reducible show wpAny _ _ (execs (_ :: _) _) _ _ _); refine execs_hide ?_; intro Qk9 kH9; (try dsimp only)) | ((with_reducible rename Hid _ _ _ => kH9); first | (refine hid_next kH9 ?_; clear kH9; (try clear Qk9)) | (refine hid_other kH9 (by nofun) ?_; clear kH9; (try clear Qk9)); (try dsimp only)) | ((with_reducible show wpAny _ _ (binaryOp Operator.Add (Value.str _ _) (Value.str _ _)) _ _ _); k_dflt (refine SB.add ?_ (add_fits (by walk_at "m_len") (by walk_at "m_len") (by decide +kernel)); intro _ _; (try dsimp only))) | ((with_reducible show wpAny _ _ (call (Value.builtin "len") [Value.str _ _]) _ _ _); k_dflt (refine len_str_ok (Nat.le_trans (by walk_at "m_len") (by decide +kernel)) ?_; (try dsimp only))) | ((with_reducible show wpAny _ _ (call (Value.builtin "list.append") [Value.ref _, _]) _ _ _); k_dflt (refine append_K (by k_asm) (by k_asm) (by k_upd) ?_ (by refine size_ok ?_; (try simp only [List.size_toArray]); omega); k_whole); intro _ _ _; (try k_sweep)) | ((with_reducible show wpAny _ _ (storeName (compEnvC _ _ _ _) _ _) _ _ _); k_dflt (refine cc_store (by assumption) (by assumption) (by exact rfl) (by exact rfl) ?_); intro _ _ _; (try k_sweep)) | ((with_reducible show wpAny _ _ (eval (Expr.Name _ _) (compEnvC _ _ _ _)) _ _ _); k_dflt (refine cc_load (by assumption) (by exact rfl) ?_ (by exact rfl) (by exact rfl) (by exact rfl))) | ((with_reducible show wpAny _ _ _ _ _ _); (fail_if_success (with_reducible first | show wpAny _ _ (exec (Stmt.For _ _ _ _ _) _) _ _ _ | show wpAny _ _ (exec (Stmt.While _ _ _ _) _) _ _ _ | show wpAny _ _ (pyIter _) _ _ _ | show wpAny _ _ (call (Value.builtin "list.pop") _ _) _ _ _ | show wpAny _ _ (call (Value.builtin "str.join") _ _) _ _ _ | show wpAny _ _ (call (Value.builtin "max") _ _) _ _ _ | show wpAny _ _ (setItem _ _ _) _ _ _ | show wpAny _ _ (call (Value.builtin "str.replace") _ _) _ _ _ | show wpAny _ _ (call (Value.builtin "str.split") _ _) _ _ _ | show wpAny _ _ (call (Value.ref _) _ _) _ _ _ | show wpAny _ _ (eval (Expr.ListComp _ _ _ _) _) _ _ _ | show wpAny _ _ (exec (Stmt.Assign _ (Expr.ListComp _ _ _ _) _) _) _ _ _)); first | walk1 | (dsimp only; walk1)) | ((with_reducible show Frag.In _ _ ∧ _); (refine ⟨by k_in, ?_⟩); (try dsimp only [List.nil_append, List.cons_append])) | ((with_reducible show (if _ then _ else _)); walk1)))
   have hr : r8.cps.toList = x0.cps.toList.map mface := by
     rw [hr8, hr7, hr6, hr5, hr4, hr3, hr2, hr1]
     simp only [List.map_map]
     refine List.map_congr_left fun c hc => ?_
     have := hx0c c hc
     exact mface_chain (by omega)
   clear hr1 hr2 hr3 hr4 hr5 hr6 hr7 hr8
   refine' repl_tok ?u ?v ?uv ?yz ?x ?z ?_
   (case u => omega)
   (case v => omega)
   (case uv => omega)
   (case yz => decide +kernel)
   (case x => omega)
   (case z => decide +kernel)
   intro t9 k9 hk9
   dsimp only at hk9
   have hr9 : (Txt.replace r8 (Str.ofString "unknown") (Str.ofString "")).cps.toList = replL unk [] (x0.cps.toList.map mface) := by
     rw [replace_list _ _ _ (by decide +kernel), unk_lit, empty_list, hr]
   have hl9 : (Txt.replace r8 (Str.ofString "unknown") (Str.ofString "")).length ≤ 400 := by
     rw [len_list, hr9]
     refine Nat.le_trans (repl_len (by decide) (Nat.zero_le _) _ _ rfl) ?_
     rw [List.length_map, ← len_list]; exact hj
   generalize Txt.replace r8 (Str.ofString "unknown") (Str.ofString "") = r9 at hr9 hl9
   repeat' (first | ((with_reducible show ((_ : Nat) ≤ _ → _)); intro htk9; (try dsimp only at htk9); revert htk9; intro _) | ((with_reducible show wpAny _ _ (execs (_ :: _) _) _ _ _); refine execs_hidt (by first | omega | (dsimp only; omega)) ?_; intro _ _ htk9; (try dsimp only at htk9); revert htk9; intro _ Qk9 kH9; (try dsimp only)) | ((with_reducible show wpAny _ _ (execs [] _) _ _ _); refine wpAny_execs_nil ?_; (try dsimp only)) | (first | (k_unfold; (try dsimp only)) | ((with_reducible show wpAny _ _ (execs (_ :: _) _) _ _ _); refine execs_hide ?_; intro Qk9 kH9; (try dsimp only)) | ((with_reducible rename Hid _ _ _ => kH9); first | (refine hid_next kH9 ?_; clear kH9; (try clear Qk9)) | (refine hid_other kH9 (by nofun) ?_; clear kH9; (try clear Qk9)); (try dsimp only)) | ((with_reducible show wpAny _ _ (binaryOp Operator.Add (Value.str _ _) (Value.str _ _)) _ _ _); k_dflt (refine SB.add ?_ (add_fits (by walk_at "m_len") (by walk_at "m_len") (by decide +kernel)); intro _ _; (try dsimp only))) | ((with_reducible show wpAny _ _ (call (Value.builtin "len") [Value.str _ _]) _ _ _); k_dflt (refine len_str_ok (Nat.le_trans (by walk_at "m_len") (by decide +kernel)) ?_; (try dsimp only))) | ((with_reducible show wpAny _ _ (call (Value.builtin "list.append") [Value.ref _, _]) _ _ _); k_dflt (refine append_K (by k_asm) (by k_asm) (by k_upd) ?_ (by refine size_ok ?_; (try simp only [List.size_toArray]); omega); k_whole); intro _ _ _; (try k_sweep)) | ((with_reducible show wpAny _ _ (storeName (compEnvC _ _ _ _) _ _) _ _ _); k_dflt (refine cc_store (by assumption) (by assumption) (by exact rfl) (by exact rfl) ?_); intro _ _ _; (try k_sweep)) | ((with_reducible show wpAny _ _ (eval (Expr.Name _ _) (compEnvC _ _ _ _)) _ _ _); k_dflt (refine cc_load (by assumption) (by exact rfl) ?_ (by exact rfl) (by exact rfl) (by exact rfl))) | ((with_reducible show wpAny _ _ _ _ _ _); (fail_if_success (with_reducible first | show wpAny _ _ (exec (Stmt.For _ _ _ _ _) _) _ _ _ | show wpAny _ _ (exec (Stmt.While _ _ _ _) _) _ _ _ | show wpAny _ _ (pyIter _) _ _ _ | show wpAny _ _ (call (Value.builtin "list.pop") _ _) _ _ _ | show wpAny _ _ (call (Value.builtin "str.join") _ _) _ _ _ | show wpAny _ _ (call (Value.builtin "max") _ _) _ _ _ | show wpAny _ _ (setItem _ _ _) _ _ _ | show wpAny _ _ (call (Value.builtin "str.replace") _ _) _ _ _ | show wpAny _ _ (call (Value.builtin "str.split") _ _) _ _ _ | show wpAny _ _ (call (Value.ref _) _ _) _ _ _ | show wpAny _ _ (eval (Expr.ListComp _ _ _ _) _) _ _ _ | show wpAny _ _ (exec (Stmt.Assign _ (Expr.ListComp _ _ _ _) _) _) _ _ _)); first | walk1 | (dsimp only; walk1)) | ((with_reducible show Frag.In _ _ ∧ _); (refine ⟨by k_in, ?_⟩); (try dsimp only [List.nil_append, List.cons_append])) | ((with_reducible show (if _ then _ else _)); walk1)))
   rename_i h10 F10 N10 _ tk10 htk10 htk10'
   have hst0 : s.toks ≤ tk10 := by omega
   clear hk1 hk2 hk3 hk4 hk5 hk6 hk7 hk8 hk9
   refine while_inv (fun n s' => ∃ h' tk pl tp m', s' = { s with heap := h', gens := gens6, toks := tk } ∧ Fr (er P s.heap) (s.heap.objs.size + 1) h' m' ∧ m' (Str.ofString "platform") = some (.str pl tp) ∧
     News (er P s.heap) (s.heap.objs.size + 1) h' [(P, tabObj ps6)] ∧ sqz false pl.cps.toList = sqz false r9.cps.toList ∧ pl.length ≤ 400 ∧ s.toks ≤ tk ∧ n = pl.length) ?_ r9.length ⟨_, _, _, _, _, rfl, F10, rfl, N10, rfl, hl9, hst0, rfl⟩
   rintro n s' ⟨h11, tk11, pl, tp, m11, rfl, F11, hm11, N11, hsq, hpl, hst, rfl⟩
   have F11' := fr_kst [(Str.ofString "platform", Value.str pl tp)] F11 (by intro q hq; rw [List.mem_singleton.mp hq]; exact hm11)
   simp only [kstB] at F11'
   clear F11 F10 N10
   repeat' (first | ((with_reducible show ((_ : Nat) ≤ _ → _)); intro htk9; (try dsimp only at htk9); revert htk9; intro _) | ((with_reducible show wpAny _ _ (execs (_ :: _) _) _ _ _); refine execs_hidt (by first | omega | (dsimp only; omega)) ?_; intro _ _ htk9; (try dsimp only at htk9); revert htk9; intro _ Qk9 kH9; (try dsimp only)) | ((with_reducible show wpAny _ _ (execs [] _) _ _ _); refine wpAny_execs_nil ?_; (try dsimp only)) | (first | (k_unfold; (try dsimp only)) | ((with_reducible show wpAny _ _ (execs (_ :: _) _) _ _ _); refine execs_hide ?_; intro Qk9 kH9; (try dsimp only)) | ((with_reducible rename Hid _ _ _ => kH9); first | (refine hid_next kH9 ?_; clear kH9; (try clear Qk9)) | (refine hid_other kH9 (by nofun) ?_; clear kH9; (try clear Qk9)); (try dsimp only)) | ((with_reducible show wpAny _ _ (binaryOp Operator.Add (Value.str _ _) (Value.str _ _)) _ _ _); k_dflt (refine SB.add ?_ (add_fits (by walk_at "m_len") (by walk_at "m_len") (by decide +kernel)); intro _ _; (try dsimp only))) | ((with_reducible show wpAny _ _ (call (Value.builtin "len") [Value.str _ _]) _ _ _); k_dflt (refine len_str_ok (Nat.le_trans (by walk_at "m_len") (by decide +kernel)) ?_; (try dsimp only))) | ((with_reducible show wpAny _ _ (call (Value.builtin "list.append") [Value.ref _, _]) _ _ _); k_dflt (refine append_K (by k_asm) (by k_asm) (by k_upd) ?_ (by refine size_ok ?_; (try simp only [List.size_toArray]); omega); k_whole); intro _ _ _; (try k_sweep)) | ((with_reducible show wpAny _ _ (storeName (compEnvC _ _ _ _) _ _) _ _ _); k_dflt (refine cc_store (by assumption) (by assumption) (by exact rfl) (by exact rfl) ?_); intro _ _ _; (try k_sweep)) | ((with_reducible show wpAny _ _ (eval (Expr.Name _ _) (compEnvC _ _ _ _)) _ _ _); k_dflt (refine cc_load (by assumption) (by exact rfl) ?_ (by exact rfl) (by exact rfl) (by exact rfl))) | ((with_reducible show wpAny _ _ _ _ _ _); (fail_if_success (with_reducible first | show wpAny _ _ (exec (Stmt.For _ _ _ _ _) _) _ _ _ | show wpAny _ _ (exec (Stmt.While _ _ _ _) _) _ _ _ | show wpAny _ _ (pyIter _) _ _ _ | show wpAny _ _ (call (Value.builtin "list.pop") _ _) _ _ _ | show wpAny _ _ (call (Value.builtin "str.join") _ _) _ _ _ | show wpAny _ _ (call (Value.builtin "max") _ _) _ _ _ | show wpAny _ _ (setItem _ _ _) _ _ _ | show wpAny _ _ (call (Value.builtin "str.replace") _ _) _ _ _ | show wpAny _ _ (call (Value.builtin "str.split") _ _) _ _ _ | show wpAny _ _ (call (Value.ref _) _ _) _ _ _ | show wpAny _ _ (eval (Expr.ListComp _ _ _ _) _) _ _ _ | show wpAny _ _ (exec (Stmt.Assign _ (Expr.ListComp _ _ _ _) _) _) _ _ _)); first | walk1 | (dsimp only; walk1)) | ((with_reducible show Frag.In _ _ ∧ _); (refine ⟨by k_in, ?_⟩); (try dsimp only [List.nil_append, List.cons_append])) | ((with_reducible show (if _ then _ else _)); walk1)))
   refine' repl_tok ?u ?v ?uv ?yz ?x ?z ?_
   (case u => omega)
   (case v => omega)
   (case uv => omega)
   (case yz => decide +kernel)
   (case x => omega)
   (case z => decide +kernel)
   intro t12 k12 hk12
   dsimp only at hk12
   have hcl : (Txt.replace pl (Str.ofString "--") (Str.ofString "-")).cps.toList = replL [45, 45] [45] pl.cps.toList := by
     rw [replace_list _ _ _ (by decide +kernel)]
     have e1 : (Str.ofString "--").cps.toList = [45, 45] := by decide +kernel
     have e2 : (Str.ofString "-").cps.toList = [45] := by decide +kernel
     rw [e1, e2]
   have hll := pass_len _ pl.cps.toList rfl
   generalize Txt.replace pl (Str.ofString "--") (Str.ofString "-") = cl at hcl
   have hcll : cl.length ≤ 400 := by rw [len_list, hcl]; rw [len_list] at hpl; omega
   repeat' (first | ((with_reducible show ((_ : Nat) ≤ _ → _)); intro htk9; (try dsimp only at htk9); revert htk9; intro _) | ((with_reducible show wpAny _ _ (execs (_ :: _) _) _ _ _); refine execs_hidt (by first | omega | (dsimp only; omega)) ?_; intro _ _ htk9; (try dsimp only at htk9); revert htk9; intro _ Qk9 kH9; (try dsimp only)) | ((with_reducible show wpAny _ _ (execs [] _) _ _ _); refine wpAny_execs_nil ?_; (try dsimp only)) | (first | (k_unfold; (try dsimp only)) | ((with_reducible show wpAny _ _ (execs (_ :: _) _) _ _ _); refine execs_hide ?_; intro Qk9 kH9; (try dsimp only)) | ((with_reducible rename Hid _ _ _ => kH9); first | (refine hid_next kH9 ?_; clear kH9; (try clear Qk9)) | (refine hid_other kH9 (by nofun) ?_; clear kH9; (try clear Qk9)); (try dsimp only)) | ((with_reducible show wpAny _ _ (binaryOp Operator.Add (Value.str _ _) (Value.str _ _)) _ _ _); k_dflt (refine SB.add ?_ (add_fits (by walk_at "m_len") (by walk_at "m_len") (by decide +kernel)); intro _ _; (try dsimp only))) | ((with_reducible show wpAny _ _ (call (Value.builtin "len") [Value.str _ _]) _ _ _); k_dflt (refine len_str_ok (Nat.le_trans (by walk_at "m_len") (by decide +kernel)) ?_; (try dsimp only))) | ((with_reducible show wpAny _ _ (call (Value.builtin "list.append") [Value.ref _, _]) _ _ _); k_dflt (refine append_K (by k_asm) (by k_asm) (by k_upd) ?_ (by refine size_ok ?_; (try simp only [List.size_toArray]); omega); k_whole); intro _ _ _; (try k_sweep)) | ((with_reducible show wpAny _ _ (storeName (compEnvC _ _ _ _) _ _) _ _ _); k_dflt (refine cc_store (by assumption) (by assumption) (by exact rfl) (by exact rfl) ?_); intro _ _ _; (try k_sweep)) | ((with_reducible show wpAny _ _ (eval (Expr.Name _ _) (compEnvC _ _ _ _)) _ _ _); k_dflt (refine cc_load (by assumption) (by exact rfl) ?_ (by exact rfl) (by exact rfl) (by exact rfl))) | ((with_reducible show wpAny _ _ _ _ _ _); (fail_if_success (with_reducible first | show wpAny _ _ (exec (Stmt.For _ _ _ _ _) _) _ _ _ | show wpAny _ _ (exec (Stmt.While _ _ _ _) _) _ _ _ | show wpAny _ _ (pyIter _) _ _ _ | show wpAny _ _ (call (Value.builtin "list.pop") _ _) _ _ _ | show wpAny _ _ (call (Value.builtin "str.join") _ _) _ _ _ | show wpAny _ _ (call (Value.builtin "max") _ _) _ _ _ | show wpAny _ _ (setItem _ _ _) _ _ _ | show wpAny _ _ (call (Value.builtin "str.replace") _ _) _ _ _ | show wpAny _ _ (call (Value.builtin "str.split") _ _) _ _ _ | show wpAny _ _ (call (Value.ref _) _ _) _ _ _ | show wpAny _ _ (eval (Expr.ListComp _ _ _ _) _) _ _ _ | show wpAny _ _ (exec (Stmt.Assign _ (Expr.ListComp _ _ _ _) _) _) _ _ _)); first | walk1 | (dsimp only; walk1)) | ((with_reducible show Frag.In _ _ ∧ _); (refine ⟨by k_in, ?_⟩); (try dsimp only [List.nil_append, List.cons_append])) | ((with_reducible show (if _ then _ else _)); walk1)))
   · rename_i h13 F13 N13 _ _ _ _ heq _ _ _ _ _ _ tk13 htk13 htk13'
     have hsame : replL [45, 45] [45] pl.cps.toList = pl.cps.toList := by rw [← hcl, eq_of_beq heq]
     have hno := pass_same _ pl.cps.toList rfl hsame
     have hst13 : s.toks ≤ tk13 := by omega
     clear hll hcl
     refine while_inv (fun n s' => ∃ h' tk pl tp m', s' = { s with heap := h', gens := gens6, toks := tk } ∧ Fr (er P s.heap) (s.heap.objs.size + 1) h' m' ∧ m' (Str.ofString "platform") = some (.str pl tp) ∧
       News (er P s.heap) (s.heap.objs.size + 1) h' [(P, tabObj ps6)] ∧ sqz false pl.cps.toList = sqz false r9.cps.toList ∧ (∀ p r, pl.cps.toList ≠ p ++ [45, 45] ++ r) ∧ pl.length ≤ 400 ∧ s.toks ≤ tk ∧ n = pl.length) ?_ pl.length ⟨_, _, _, _, _, rfl, F13, rfl, N13, hsq, hno, hpl, hst13, rfl⟩
     clear hsame hno hst13 hsq hpl F13 N13 heq hm11
     rintro n s' ⟨h14, tk14, pl, tp, m14, rfl, F14, hm14, N14, hsq, hno, hpl, hst, rfl⟩
     have F14' := fr_kst [(Str.ofString "platform", Value.str pl tp)] F14 (by intro q hq; rw [List.mem_singleton.mp hq]; exact hm14)
     simp only [kstB] at F14'
     clear F14
     repeat' (first | ((with_reducible show ((_ : Nat) ≤ _ → _)); intro htk9; (try dsimp only at htk9); revert htk9; intro _) | ((with_reducible show wpAny _ _ (execs (_ :: _) _) _ _ _); refine execs_hidt (by first | omega | (dsimp only; omega)) ?_; intro _ _ htk9; (try dsimp only at htk9); revert htk9; intro _ Qk9 kH9; (try dsimp only)) | ((with_reducible show wpAny _ _ (execs [] _) _ _ _); refine wpAny_execs_nil ?_; (try dsimp only)) | (first | (k_unfold; (try dsimp only)) | ((with_reducible show wpAny _ _ (execs (_ :: _) _) _ _ _); refine execs_hide ?_; intro Qk9 kH9; (try dsimp only)) | ((with_reducible rename Hid _ _ _ => kH9); first | (refine hid_next kH9 ?_; clear kH9; (try clear Qk9)) | (refine hid_other kH9 (by nofun) ?_; clear kH9; (try clear Qk9)); (try dsimp only)) | ((with_reducible show wpAny _ _ (binaryOp Operator.Add (Value.str _ _) (Value.str _ _)) _ _ _); k_dflt (refine SB.add ?_ (add_fits (by walk_at "m_len") (by walk_at "m_len") (by decide +kernel)); intro _ _; (try dsimp only))) | ((with_reducible show wpAny _ _ (call (Value.builtin "len") [Value.str _ _]) _ _ _); k_dflt (refine len_str_ok (Nat.le_trans (by walk_at "m_len") (by decide +kernel)) ?_; (try dsimp only))) | ((with_reducible show wpAny _ _ (call (Value.builtin "list.append") [Value.ref _, _]) _ _ _); k_dflt (refine append_K (by k_asm) (by k_asm) (by k_upd) ?_ (by refine size_ok ?_; (try simp only [List.size_toArray]); omega); k_whole); intro _ _ _; (try k_sweep)) | ((with_reducible show wpAny _ _ (storeName (compEnvC _ _ _ _) _ _) _ _ _); k_dflt (refine cc_store (by assumption) (by assumption) (by exact rfl) (by exact rfl) ?_); intro _ _ _; (try k_sweep)) | ((with_reducible show wpAny _ _ (eval (Expr.Name _ _) (compEnvC _ _ _ _)) _ _ _); k_dflt (refine cc_load (by assumption) (by exact rfl) ?_ (by exact rfl) (by exact rfl) (by exact rfl))) | ((with_reducible show wpAny _ _ _ _ _ _); (fail_if_success (with_reducible first | show wpAny _ _ (exec (Stmt.For _ _ _ _ _) _) _ _ _ | show wpAny _ _ (exec (Stmt.While _ _ _ _) _) _ _ _ | show wpAny _ _ (pyIter _) _ _ _ | show wpAny _ _ (call (Value.builtin "list.pop") _ _) _ _ _ | show wpAny _ _ (call (Value.builtin "str.join") _ _) _ _ _ | show wpAny _ _ (call (Value.builtin "max") _ _) _ _ _ | show wpAny _ _ (setItem _ _ _) _ _ _ | show wpAny _ _ (call (Value.builtin "str.replace") _ _) _ _ _ | show wpAny _ _ (call (Value.builtin "str.split") _ _) _ _ _ | show wpAny _ _ (call (Value.ref _) _ _) _ _ _ | show wpAny _ _ (eval (Expr.ListComp _ _ _ _) _) _ _ _ | show wpAny _ _ (exec (Stmt.Assign _ (Expr.ListComp _ _ _ _) _) _) _ _ _)); first | walk1 | (dsimp only; walk1)) | ((with_reducible show Frag.In _ _ ∧ _); (refine ⟨by k_in, ?_⟩); (try dsimp only [List.nil_append, List.cons_append])) | ((with_reducible show (if _ then _ else _)); walk1)))
     · rename_i hz _ heq tk15 _ htk15 h16 t16 k16 hle16 h17 F17 N17 htk17
       obtain ⟨r, hr⟩ := last_hy (by omega) heq
       have hc := slice_cut hr
       have hlr : pl.length = r.length + 1 := by rw [len_list, hr]; simp
       refine ⟨r.length, by rw [hlr]; exact Nat.lt_succ_self _, _, _, _, _, _, rfl, F17, rfl, N17, ?_, ?_, ?_, ?_, ?_⟩
       · rw [hc, ← hsq, hr, sqz_end]
       · intro p q e
         rw [hc] at e
         exact hno p (q ++ [45]) (by rw [hr, e]; simp)
       · exact Nat.le_trans hle16 hpl
       · first | omega | (dsimp only; omega)
       · rw [len_list, hc]
     · rename_i hz _ heq _ tk15 _ htk15 htk16
       have k14 : ∀ b o, b ≠ P → s.heap.get? b = some o → h14.get? b = some o := fun b o hb e => F14'.keep b o ((er_other hb).trans e)
       have T14 : Tab 27 P h14 := T6.keeps fun b o hb e => by
         rcases hb with hb | hb
         · obtain ⟨⟨o', _, ho', _⟩, _⟩ := htab
           have e1 := kp6 27 o' TB.ne ho'
           rw [hb] at e ⊢
           rw [e1] at e; cases e
           exact k14 27 _ TB.ne ho'
         · rw [hb] at e ⊢
           rw [htab6.2] at e; cases e; exact (N14 _ (.head _)).1
       refine hR _ _ _ _ _ k14 T14 G6 (by first | omega | (dsimp only; omega)) ?_
       rw [← hr9, ← hsq, sqz_same _ hno (last_no heq)]
     · rename_i hz _ tk15 _ htk15 htk16
       have k14 : ∀ b o, b ≠ P → s.heap.get? b = some o → h14.get? b = some o := fun b o hb e => F14'.keep b o ((er_other hb).trans e)
       have T14 : Tab 27 P h14 := T6.keeps fun b o hb e => by
         rcases hb with hb | hb
         · obtain ⟨⟨o', _, ho', _⟩, _⟩ := htab
           have e1 := kp6 27 o' TB.ne ho'
           rw [hb] at e ⊢
           rw [e1] at e; cases e
           exact k14 27 _ TB.ne ho'
         · rw [hb] at e ⊢
           rw [htab6.2] at e; cases e; exact (N14 _ (.head _)).1
       refine hR _ _ _ _ _ k14 T14 G6 (by first | omega | (dsimp only; omega)) ?_
       have hnil : pl.cps.toList = [] := by
         refine List.length_eq_zero_iff.mp ?_
         rw [← len_list]; omega
       rw [hnil] at hsq ⊢
       rw [← hr9, ← hsq]; rfl
   · rename_i h13 F13 N13 _
     have hne : replL [45, 45] [45] pl.cps.toList ≠ pl.cps.toList := by
       intro e
       rw [← hcl] at e
       have : cl = pl := str_ext e
       simp_all
     refine ⟨cl.length, by rw [len_list, len_list pl, hcl]; exact hll.2 hne, _, _, _, _, _, rfl, F13, rfl, N13, ?_, hcll, by first | omega | (dsimp only; omega), rfl⟩
     rw [hcl, sqz_pass _ _ _ rfl, hsq])
end
end Part_wpl

section Part_cz
section
variable {prog : Program} {w : World} {A : Around} {s : Shared} {env : Env} {h₀ : Heap}

inductive CompJU (h_b : Heap) (C D : Addr) (wr : List Addr) (n : Nat) (St : Nat → Heap → Prop) (El : Nat → Option Value → List (Addr × Obj) → Nat → Prop) (s : Shared) (k : Nat) (s' : Shared) : Prop
  | mk (h' : Heap) (tk : Nat) (m' : Str → Option Value) (rs : List (Option Value × List (Addr × Obj))) (e0 : s' = { s with heap := h', toks := tk }) (e1 : s.toks ≤ tk) (e2 : St rs.length h') (e3 : h'.PlainList D (rs.filterMap (·.1)).toArray) (e4 : Fr h_b C h' m')
    (e5 : News h_b C h' (rs.flatMap (·.2))) (e6 : ∀ p ∈ rs.flatMap (·.2), p.1 ≠ D ∧ p.1 ∉ wr) (e7 : ∀ i r, rs[i]? = some r → ∃ k, k ≤ tk ∧ El i r.1 r.2 k) (e8 : rs.length ≤ n)
    (e9 : ∀ b o, b ∉ wr → b ≠ C → b ≠ D → s.heap.get? b = some o → h'.get? b = some o) (e10 : ∀ p ∈ rs.flatMap (·.2), s.heap.get? p.1 = none) (e11 : k = n + 1 - rs.length) : CompJU h_b C D wr n St El s k s'
set_option maxHeartbeats 1000000
theorem compLoop_U {R : Result → Shared → Prop} {elt target iter : Expr} {ifs : List Expr} {scope : Scope} {pos : Pos} {I D : Addr} {fp wr : List Addr} {n : Nat} {P Md : Nat → Value → Heap → Prop} {St : Nat → Heap → Prop} {cenv : Env} {h_b : Heap} {m : Str → Option Value}
    (W : KTurns prog w A target I fp wr n P Md St) (hDC : D ≠ cenv.locals) (hDf : D ∉ fp) (hCf : cenv.locals ∉ fp) (hDb : h_b.get? D = none) (hwb : ∀ b ∈ wr, h_b.get? b = none) (hsz : n ≤ sizeLine)
    (hlive : ∀ i h, St i h → ∀ b ∈ wr, ∃ o, h.get? b = some o)
    (hst : St 0 s.heap) (hacc : s.heap.PlainList D #[]) (F : Fr h_b cenv.locals s.heap m) (El : Nat → Option Value → List (Addr × Obj) → Nat → Prop)
    (turn : ∀ i v h tk m₁ olds, i < n → P i v h → s.toks ≤ tk → Fr h_b cenv.locals h m₁ → News h_b cenv.locals h olds →
      wpAny (model prog w) A (assign target cenv v) (fun _ s₂ =>
        wpAny (model prog w) A (forIn ifs true fun c r => if r = true then do let ok ← isTrue c cenv (eval c cenv); pure (ForInStep.yield ok) else pure (ForInStep.yield r)) (fun ok s₃ =>
          if ok = true then wpAny (model prog w) A (eval elt cenv) (fun y s₄ => ElEnd h_b cenv.locals olds (El i (some y)) s s₄) NoE s₃
          else ElEnd h_b cenv.locals olds (El i none) s s₃) NoE s₂) NoE { s with heap := h, toks := tk })
    (hR : ∀ h' tk m' (rs : List (Option Value × List (Addr × Obj))), s.toks ≤ tk → rs.length = n → (∀ i r, rs[i]? = some r → ∃ k, k ≤ tk ∧ El i r.1 r.2 k) → h'.PlainList D (rs.filterMap (·.1)).toArray →
      Fr h_b cenv.locals h' m' → News h_b cenv.locals h' (rs.flatMap (·.2)) → (∀ b o, b ∉ wr → b ≠ cenv.locals → b ≠ D → s.heap.get? b = some o → h'.get? b = some o) → (∀ p ∈ rs.flatMap (·.2), s.heap.get? p.1 = none) → R (.ok .next) { s with heap := h', toks := tk }) :
    codeAny (model prog w) A (.compLoop (.ListComp elt [⟨target, iter, ifs, 0⟩] scope pos) 0 (.ref I) (.ref D) cenv) R s := by
  refine codeAny_loop rfl
    (CompJU h_b cenv.locals D wr n St El s) ?_ (n + 1)
    ⟨s.heap, s.toks, m, [], rfl, Nat.le_refl _, hst, hacc, F, News.nil, (fun p hp => by simp at hp), (fun i r hr => by simp at hr), Nat.zero_le _, (fun _ _ _ _ _ e => e), (fun p hp => by simp at hp), rfl⟩
  rintro k s' ⟨h', tk, m', rs, rfl, htk, hst', hacc', F', N', hoff, hEl, hlen, hfr, hfree, rfl⟩
  show wpAny _ A ((compTurn (.ListComp elt [⟨target, iter, ifs, 0⟩] scope pos) 0 (.ref I) (.ref D) cenv).onRaise (fun x => do noteFrame x cenv; theTreesLotGoes x)) _ _ _
  refine wpAny_noted ?_
  rw [compTurn_list]
  refine wpAny_bind (wpAny_standAt (wpAny_bind ?_))
  have next : ∀ h₁ : Heap, (∀ b o, b ∉ wr → h'.get? b = some o → h₁.get? b = some o) → Fr h_b cenv.locals h₁ m' := fun h₁ hk₁ =>
    ⟨F'.ns.at' fun o e => hk₁ _ o (fun hb => hCf (W.sub _ hb)) e, fun b o e => hk₁ b o (fun hb => by rw [hwb b hb] at e; cases e) (F'.keep b o e), F'.above⟩
  by_cases hlt : rs.length < n
  · refine wpAny_with_toks (n := tk) (Nat.le_refl _) (W.item rs.length _ _ _ hlt hst' fun v h₀₁ tk₁ hM hk₀ htk₁' => ?_)
    have htk₁'' : tk ≤ tk₁ := htk₁'
    have htk₁ : s.toks ≤ tk₁ := Nat.le_trans htk htk₁''
    dsimp only
    refine wpAny_bind ?_
    refine W.go rs.length v _ _ _ hM fun h₁ hP hst₁ hk₀₁ => ?_
    have hk₁ : ∀ b o, b ∉ wr → h'.get? b = some o → h₁.get? b = some o := fun b o hb e => hk₀₁ b o hb (hk₀ b o hb e)
    have F₁ := next h₁ hk₁
    dsimp only
    have body : wpAny (model prog w) A (assign target cenv v) (fun _ s₂ =>
        wpAny (model prog w) A (forIn ifs true fun c r => if r = true then do let ok ← isTrue c cenv (eval c cenv); pure (ForInStep.yield ok) else pure (ForInStep.yield r)) (fun ok s₃ =>
          if ok = true then wpAny (model prog w) A (eval elt cenv) (fun y s₄ => ElEnd h_b cenv.locals (restOf h_b h₁ cenv.locals) (El rs.length (some y)) s s₄) NoE s₃
          else ElEnd h_b cenv.locals (restOf h_b h₁ cenv.locals) (El rs.length none) s s₃) NoE s₂) NoE { s with heap := h₁, toks := tk₁ } :=
      turn rs.length v h₁ tk₁ m' _ hlt hP htk₁ F₁ news_restOf
    have hDh₁ : h₁.PlainList D (rs.filterMap (·.1)).toArray := hacc'.at fun o e => hk₁ _ o (fun hb => hDf (W.sub _ hb)) e
    have fin : ∀ (r : Option Value) (objs : List (Addr × Obj)) (h₅ : Heap) (tk₅ : Nat) (m₅ : Str → Option Value), tk₁ ≤ tk₅ → Fr h_b cenv.locals h₅ m₅ → (∀ b o, b ≠ cenv.locals → b ≠ D → h₁.get? b = some o → h₅.get? b = some o) →
        News h_b cenv.locals h₅ objs → (∀ p ∈ objs, p.1 ≠ D ∧ p.1 ∉ wr) → (∀ p ∈ objs, ∀ q ∈ restOf h_b h₁ cenv.locals, p.1 ≠ q.1) → El rs.length r objs tk₅ → h₅.PlainList D ((rs ++ [(r, objs)]).filterMap (·.1)).toArray →
        ∃ k', k' < n + 1 - rs.length ∧ CompJU h_b cenv.locals D wr n St El s k' { s with heap := h₅, toks := tk₅ } := by
      intro r objs h₅ tk₅ m₅ htk₅ F₅ hk₅ N₅ ho₅ hdd hE hD₅
      refine ⟨n + 1 - (rs.length + 1), by omega, h₅, tk₅, m₅, rs ++ [(r, objs)], rfl, Nat.le_trans htk₁ htk₅, ?_, hD₅, F₅, ?_, ?_, ?_, ?_, (fun b o h1 h2 h3 e => hk₅ b o h2 h3 (hk₁ b o h1 (hfr b o h1 h2 h3 e))), ?_, ?_⟩
      · rw [List.length_append, List.length_singleton]
        refine W.frame _ _ _ hst₁ fun b hb o e => hk₅ b o ?_ ?_ e
        · rintro rfl; exact hCf hb
        · rintro rfl; exact hDf hb
      · rw [List.flatMap_append]
        intro p hp
        rcases List.mem_append.mp hp with hp | hp
        · have h1 := N' p hp
          exact ⟨hk₅ _ _ h1.2.1 (hoff p hp).1 (hk₁ _ _ (hoff p hp).2 h1.1), h1.2⟩
        · exact N₅ p (by simpa using hp)
      · rw [List.flatMap_append]
        intro p hp
        rcases List.mem_append.mp hp with hp | hp
        · exact hoff p hp
        · exact ho₅ p (by simpa using hp)
      · intro i r' hr'
        rcases Nat.lt_trichotomy i rs.length with h | h | h
        · obtain ⟨k, hk, e⟩ := hEl i r' (by rwa [List.getElem?_append_left h] at hr')
          exact ⟨k, Nat.le_trans hk (Nat.le_trans htk₁'' htk₅), e⟩
        · subst h; simp at hr'; subst hr'; exact ⟨tk₅, Nat.le_refl _, hE⟩
        · have hnone : (rs ++ [(r, objs)])[i]? = none := List.getElem?_eq_none (by rw [List.length_append, List.length_singleton]; omega)
          rw [hnone] at hr'; cases hr'
      · rw [List.length_append, List.length_singleton]; exact hlt
      · rw [List.flatMap_append]
        intro p hp
        rcases List.mem_append.mp hp with hp | hp
        · exact hfree p hp
        · have hp' : p ∈ objs := by simpa using hp
          have h1 := N₅ p hp'
          cases e : s.heap.get? p.1 with
          | none => rfl
          | some o => exact absurd rfl (hdd p hp' (p.1, o) (mem_restOf h1.2.1 h1.2.2 (hk₁ _ _ (ho₅ p hp').2 (hfr _ _ (ho₅ p hp').2 h1.2.1 (ho₅ p hp').1 e))))
      · rw [List.length_append, List.length_singleton]
    have hDr : ∀ o, h₁.get? D = some o → (D, o) ∈ restOf h_b h₁ cenv.locals := fun o ho => mem_restOf hDC hDb ho
    have hIr : ∀ objs : List (Addr × Obj), (∀ p ∈ objs, ∀ q ∈ restOf h_b h₁ cenv.locals, p.1 ≠ q.1) → ∀ p ∈ objs, p.1 ∉ wr := fun objs hd p hp hb => by
      obtain ⟨o, ho⟩ := hlive _ _ hst₁ _ hb
      exact hd p hp _ (mem_restOf (fun e => hCf (W.sub _ (e ▸ hb))) (hwb _ hb) ho) rfl
    refine wpAny_bind (noE_mono (wpAny_mono (wpAny_toks_of (n := tk₁) (Nat.le_refl _) body) (fun _ s₂ h₂ => wpAny_bind (noE_mono (wpAny_mono (wpAny_toks_of h₂.1 h₂.2) (fun ok s₃ h₃ => ?_) fun _ _ x => x.2))) fun _ _ x => x.2))
    obtain ⟨htk₃, h₃⟩ := h₃
    cases ok with
    | false =>
      simp only [Bool.false_eq_true, if_false] at h₃ ⊢
      obtain ⟨h₅, tk₅, m₅, objs, rfl, F₅, N₅, hd₅, hE⟩ := h₃
      have htk₅ := htk₃
      obtain ⟨nD, hD⟩ := hDh₁
      refine wpAny_pure ⟨rfl, fin none objs h₅ tk₅ m₅ htk₅ F₅ (fun b o hC _ e => stays_rest F₁ F₅ (fun p hp => N₅ p (List.mem_append_right _ hp)) hC e) (fun p hp => N₅ p (List.mem_append_left _ hp)) (fun p hp => ⟨hd₅ p hp _ (hDr _ hD), hIr objs hd₅ p hp⟩) hd₅ hE ⟨nD, ?_⟩⟩
      have := stays_rest F₁ F₅ (fun p hp => N₅ p (List.mem_append_right _ hp)) hDC hD
      simpa using this
    | true =>
      simp only [if_true] at h₃ ⊢
      refine wpAny_bind (wpAny_bind (noE_mono (wpAny_mono (wpAny_toks_of htk₃ h₃) (fun y s₄ h₄ => ?_) fun _ _ x => x.2)))
      obtain ⟨htk₅, h₅, tk₅, m₅, objs, rfl, F₅, N₅, hd₅, hE⟩ := h₄
      obtain ⟨nD, hD⟩ := hDh₁
      have hD₅ : h₅.PlainList D (rs.filterMap (·.1)).toArray := ⟨nD, stays_rest F₁ F₅ (fun p hp => N₅ p (List.mem_append_right _ hp)) hDC hD⟩
      have hfl : (rs.filterMap (·.1)).toArray.size ≤ sizeLine := by
        have h1 : (rs.filterMap (·.1)).length ≤ rs.length := List.length_filterMap_le _ _
        rw [List.size_toArray]; omega
      refine wpAny_bind (wpAny_list_append_plain (hsz := hfl) hD₅ fun h₆ hl₆ hs₆ => ?_)
      refine wpAny_pure (wpAny_pure ⟨rfl, fin (some y) objs h₆ tk₅ m₅ htk₅ ?_ (fun b o hC hD' e => hs₆.extBut b o hD' (stays_rest F₁ F₅ (fun p hp => N₅ p (List.mem_append_right _ hp)) hC e)) ?_ (fun p hp => ⟨hd₅ p hp _ (hDr _ hD), hIr objs hd₅ p hp⟩) hd₅ hE ?_⟩)
      · exact ⟨F₅.ns.sameBut hs₆ (Ne.symm hDC), fun b o e => hs₆.extBut b o (by rintro rfl; rw [hDb] at e; cases e) (F₅.keep b o e), F₅.above⟩
      · intro p hp
        have h1 := N₅ p (List.mem_append_left _ hp)
        exact ⟨hs₆.extBut _ _ (hd₅ p hp _ (hDr _ hD)) h1.1, h1.2⟩
      · simpa using hl₆
  · have hin : rs.length = n := by omega
    refine wpAny_with_toks (n := tk) (Nat.le_refl _) (W.done _ _ _ (hin ▸ hst') fun h₁ tk₁ hk₁ htk₁ => wpAny_pure ?_)
    exact hR h₁ tk₁ m' rs (Nat.le_trans htk htk₁) hin (fun i r hr => let ⟨k, hk, e⟩ := hEl i r hr; ⟨k, Nat.le_trans hk htk₁, e⟩) (hacc'.at fun o e => hk₁ _ o (fun hb => hDf (W.sub _ hb)) e) (next h₁ hk₁) (fun p hp => ⟨hk₁ _ _ (hoff p hp).2 (N' p hp).1, (N' p hp).2⟩) (fun b o h1 h2 h3 e => hk₁ b o h1 (hfr b o h1 h2 h3 e)) hfree

theorem comp_block_U {elt target iter : Expr} {ifs : List Expr} {scope : Scope} {cl : List (Str × Addr)} {pos : Pos} {s₂ : Shared} {I : Addr} {fp wr : List Addr} {n : Nat} {P Md : Nat → Value → Heap → Prop} {St : Nat → Heap → Prop} {h_b : Heap}
    {RR : Value → Addr → Result → Shared → Prop} (W : KTurns prog w A target I fp wr n P Md St) (hself : ∀ (s' : Shared) (Q' : Value → Shared → Prop) (E' : Value → Shared → Prop), St 0 s'.heap → Q' (.ref I) s' → wpAny (model prog w) A (pyIter (.ref I)) Q' E' s') (hsz : n ≤ sizeLine) (hcell : ∀ y ∈ scope.names, y.2 ≠ .cell) (hkind : scope.kind = .function)
    (hfp : ∀ b ∈ fp, b < s₂.heap.objs.size) (hwb : ∀ b ∈ wr, h_b.get? b = none) (hlive : ∀ i h, St i h → ∀ b ∈ wr, ∃ o, h.get? b = some o)
    (hst : St 0 s₂.heap) (hb : Stays h_b s₂.heap) (hbs : h_b.objs.size ≤ s₂.heap.objs.size) (El : Nat → Option Value → List (Addr × Obj) → Nat → Prop)
    (turn : ∀ C i v h tk m₁ olds, i < n → P i v h → s₂.toks ≤ tk → Fr h_b C h m₁ → News h_b C h olds →
      wpAny (model prog w) A (assign target (compEnvC scope cl C env) v) (fun _ s₃ =>
        wpAny (model prog w) A (forIn ifs true fun c r => if r = true then do let ok ← isTrue c (compEnvC scope cl C env) (eval c (compEnvC scope cl C env)); pure (ForInStep.yield ok) else pure (ForInStep.yield r)) (fun ok s₄ =>
          if ok = true then wpAny (model prog w) A (eval elt (compEnvC scope cl C env)) (fun y s₅ => ElEnd h_b C olds (El i (some y)) s₂ s₅) NoE s₄
          else ElEnd h_b C olds (El i none) s₂ s₄) NoE s₃) NoE { s₂ with heap := h, toks := tk })
    (hRR : ∀ D C h' tk m' (rs : List (Option Value × List (Addr × Obj))), s₂.heap.objs.size ≤ D → s₂.heap.objs.size ≤ C → D ≠ C → s₂.toks ≤ tk → rs.length = n → (∀ i r, rs[i]? = some r → ∃ k, k ≤ tk ∧ El i r.1 r.2 k) → h'.PlainList D (rs.filterMap (·.1)).toArray →
      Fr h_b C h' m' → News h_b C h' (rs.flatMap (·.2)) → (∀ b o, b ∉ wr → s₂.heap.get? b = some o → h'.get? b = some o) → (∀ p ∈ rs.flatMap (·.2), s₂.heap.get? p.1 = none) → RR (.ref D) C (.ok .next) { s₂ with heap := h', toks := tk }) :
    wpAny (model prog w) A (newList []) (fun acc s₃ => wpAny (model prog w) A (newFunctionEnv scope env.globals cl [] env.qual none .none (some env)) (fun cenv s₄ =>
      codeAny (model prog w) A (.compStart (.ListComp elt [⟨target, iter, ifs, 0⟩] scope pos) 0 (.ref I) acc { cenv with scope := relabel scope env }) (RR acc cenv.locals) s₄) NoE s₃) NoE s₂ := by
  refine wpAny_newObj_type (wpAny_newFunctionEnv hcell (by intro y hy; simp at hy) (fun h₁ hns₁ hsb₁ => ?_) hkind)
  dsimp only at hns₁ hsb₁ ⊢
  generalize hH2 : s₂.heap.push { cls := .type "list", dict := none, data := .seq ([] : List Value).toArray } = H2 at hns₁ hsb₁ ⊢
  have hC : H2.objs.size = s₂.heap.objs.size + 1 := by rw [← hH2, Heap.size_push]
  have hDC : s₂.heap.objs.size ≠ H2.objs.size := by rw [hC]; exact Nat.ne_of_lt (Nat.lt_succ_self _)
  have old : ∀ b o, s₂.heap.get? b = some o → h₁.get? b = some o := fun b o e => hsb₁.extBut b o (by rw [hC]; have := Heap.lt_size e; exact Nat.ne_of_lt (Nat.lt_succ_of_lt this)) (Heap.get?_push_of_some _ (hH2 ▸ Heap.get?_push_of_some _ e))
  have hacc : h₁.PlainList s₂.heap.objs.size #[] := ⟨_, hsb₁.extBut _ _ hDC (Heap.get?_push_of_some _ (hH2 ▸ Heap.get?_push_size _ rfl))⟩
  have hst₁ : St 0 h₁ := W.frame _ _ _ hst fun b _ o e => old b o e
  have hCle : h_b.objs.size ≤ H2.objs.size := by rw [hC]; exact Nat.le_succ_of_le hbs
  have F₁ : Fr h_b H2.objs.size h₁ (fun x => ([] : List (Str × Value)).reverse.lookup x) := ⟨hns₁, fun b o e => old b o (hb b o e), hCle⟩
  have hDb : h_b.get? s₂.heap.objs.size = none := by
    cases e : h_b.get? s₂.heap.objs.size with
    | none => rfl
    | some o' => exact absurd (Heap.lt_size e) (Nat.not_lt.mpr hbs)
  have loop : ∀ s₃ : Shared, s₃ = { s₂ with heap := h₁, toks := s₂.toks + ([] : List (Str × Value)).length } →
      codeAny (model prog w) A (.compLoop (.ListComp elt [⟨target, iter, ifs, 0⟩] scope pos) 0 (.ref I) (.ref s₂.heap.objs.size) (compEnvC scope cl H2.objs.size env))
        (RR (.ref s₂.heap.objs.size) H2.objs.size) s₃ := by
    rintro s₃ rfl
    refine compLoop_U (cenv := compEnvC scope cl H2.objs.size env) W hDC (fun hb => absurd (hfp _ hb) (Nat.lt_irrefl _)) (fun hb => absurd (hfp _ hb) (by show ¬ H2.objs.size < _; rw [hC]; exact Nat.not_lt.mpr (Nat.le_succ _))) hDb hwb hsz hlive hst₁ hacc F₁ El ?_ ?_
    · intro i v h tk m₁ olds hi hP htk F N
      exact turn H2.objs.size i v h tk m₁ olds hi hP htk F N
    · intro h' tk m' rs htk hlen hEl hD F N hfr hfree
      have hne : ∀ b o, s₂.heap.get? b = some o → b ≠ H2.objs.size ∧ b ≠ s₂.heap.objs.size := fun b o e => ⟨Nat.ne_of_lt (by rw [hC]; exact Nat.lt_succ_of_lt (Heap.lt_size e)), Nat.ne_of_lt (Heap.lt_size e)⟩
      refine hRR _ _ h' tk m' rs (Nat.le_refl _) (by rw [hC]; exact Nat.le_succ _) hDC htk hlen hEl hD F N (fun b o hb' e => hfr b o hb' (hne b o e).1 (hne b o e).2 (old b o e)) ?_
      intro p hp
      cases e : s₂.heap.get? p.1 with
      | none => rfl
      | some o =>
        have h1 : h₁.get? p.1 = none := hfree p hp
        rw [old _ _ e] at h1; cases h1
  exact codeAny_compStart_list (loop _ rfl) (hself _ _ _ hst₁ (loop _ rfl))

/-- a list comprehension over an iterator that owns more than itself (zip); the ground may lie ahead of it -/
inductive CompAtU (prog : Program) (w : World) (A : Around) (env : Env) (scope : Scope) (cl : List (Str × Addr)) (target : Expr) (ifs : List Expr) (elt : Expr) (h_b : Heap)
    (Fin : (Str → Option Value) → List (Addr × Obj) → Nat → (Nat → Option Value → List (Addr × Obj) → Nat → Prop) → Shared → Prop) (it : Value) (s₂ : Shared) : Prop
  | mk (m : Str → Option Value) (news : List (Addr × Obj)) (I : Addr) (fp wr : List Addr) (n : Nat) (P Md : Nat → Value → Heap → Prop) (St : Nat → Heap → Prop) (El : Nat → Option Value → List (Addr × Obj) → Nat → Prop) (e0 : it = .ref I) (e1 : KTurns prog w A target I fp wr n P Md St) (e2 : (∀ (s' : Shared) (Q' : Value → Shared → Prop) (E' : Value → Shared → Prop), St 0 s'.heap → Q' (.ref I) s' → wpAny (model prog w) A (pyIter (.ref I)) Q' E' s')) (e3 : n ≤ sizeLine) (e4 : (∀ b ∈ fp, b < s₂.heap.objs.size)) (e5 : (∀ b ∈ wr, h_b.get? b = none)) (e6 : (∀ i h, St i h → ∀ b ∈ wr, ∃ o, h.get? b = some o)) (e7 : St 0 s₂.heap) (e8 : Fr h_b env.locals s₂.heap m) (e9 : News h_b env.locals s₂.heap news) (e10 : (∀ p ∈ news, p.1 ∉ wr)) (e11 : env.locals ∉ wr) (e12 : (∀ C i v h tk m₁ olds, i < n → P i v h → s₂.toks ≤ tk → Fr h_b C h m₁ → News h_b C h olds →
      wpAny (model prog w) A (assign target (compEnvC scope cl C env) v) (fun _ s₃ =>
        wpAny (model prog w) A (forIn ifs true fun c r => if r = true then do let ok ← isTrue c (compEnvC scope cl C env) (eval c (compEnvC scope cl C env)); pure (ForInStep.yield ok) else pure (ForInStep.yield r)) (fun ok s₄ =>
          if ok = true then wpAny (model prog w) A (eval elt (compEnvC scope cl C env)) (fun y s₅ => ElEnd h_b C olds (El i (some y)) s₂ s₅) NoE s₄
          else ElEnd h_b C olds (El i none) s₂ s₄) NoE s₃) NoE { s₂ with heap := h, toks := tk })) (e13 : Fin m news n El s₂) : CompAtU prog w A env scope cl target ifs elt h_b Fin it s₂

theorem comp_assign_U {elt target iter : Expr} {ifs : List Expr} {scope : Scope} {cl : List (Str × Addr)} {pos spos py : Pos} {y : Str} {Q : Flow → Shared → Prop} {h₀ : Heap}
    {L₁ : Addr} {h₁₁ : Heap} {m₁₁ : Str → Option Value} (_F : Fr h₀ L₁ h₁₁ m₁₁)
    (hsw : swapsWith (.ListComp elt [⟨target, iter, ifs, 0⟩] scope pos) (some (.Name y py)) spos.line env = pure true)
    (hclos : closureFor scope env = pure cl) (hcell : ∀ y ∈ scope.names, y.2 ≠ .cell) (hkind : scope.kind = .function) (hnames : ∀ y ∈ scope.names, y.2 = .local → scope.names.lookup y.1 = some .local)
    (hy : env.kindOf y = some .local) (hp : (env.scope.kind == .class || (env.scope.kind == .module && env.locals != env.globals)) = false)
    (h : wpAny (model prog w) A (eval iter env) (fun xv s₁ => wpAny (model prog w) A (pyIter xv) (fun it s₂ => CompAtU prog w A env scope cl target ifs elt h₀
      (fun m news n El s₂ => ∀ D h' tk (rs : List (Option Value × List (Addr × Obj))) k, (∀ p ∈ news, p.1 < D) → (∀ p ∈ rs.flatMap (·.2), ∀ q ∈ news, p.1 ≠ q.1) → s₂.toks ≤ tk → rs.length = n → (∀ i r, rs[i]? = some r → ∃ k, k ≤ tk ∧ El i r.1 r.2 k) →
        Fr h₀ env.locals h' (fun z => if z = y then some (.ref D) else m z) → News h₀ env.locals h' ((D, listOf (rs.filterMap (·.1)).toArray k) :: (rs.flatMap (·.2) ++ news)) → Q .next { s₂ with heap := h', toks := tk }) it s₂) NoE s₁) NoE s)
    (hs : ∀ x, foldedSetIterable iter env x = pure x := by intro _; rfl) :
    wpAny (model prog w) A (exec (.Assign [.Name y py] (.ListComp elt [⟨target, iter, ifs, 0⟩] scope pos) spos) env) Q NoE s := by
  rw [exec_Assign_Name_used _ _ _ _ hsw]
  refine wpAny_bind (wpAny_standAt (wpAny_bind ?_))
  show wpAny _ A (do let _ ← comprehension (.ListComp elt [⟨target, iter, ifs, 0⟩] scope pos) scope env _ (newList []) false (eval iter env) (some (assign (.Name y py) env))) _ _ s
  refine wpAny_bind (wpAny_mono (wpAny_comprehension_free (use := some (assign (.Name y py) env)) (Q := fun _ s' => Q .next s') rfl hs hclos hkind hnames
    (wpAny_mono h (fun xv s₁ h₁ => ?_) fun _ _ e => e)) (fun _ s' hq => wpAny_pure (wpAny_pure hq)) fun _ _ e => e)
  refine wpAny_mono h₁ (fun it s₂ h₂ => ?_) fun _ _ e => e
  obtain ⟨m, news, I, fp, wr, n, P, Md, St, El, rfl, W, hself, hsz, hfp, hwb, hlive, hst, F₀, N₀, hnw, hLw, turn, hQ⟩ := h₂
  have hbs : h₀.objs.size ≤ s₂.heap.objs.size := Nat.le_of_lt (Nat.lt_of_le_of_lt F₀.above F₀.ns.lt)
  refine comp_block_U (RR := fun acc C => compPost (model prog w) A NoE (some (assign (.Name y py) env)) (fun _ s' => Q .next s') acc C) W hself hsz hcell hkind hfp hwb hlive hst F₀.keep hbs El turn ?_
  intro D C h' tk m' rs hD hC hDC htk hlen hEl hl F N hfr hfree
  have hLlt : env.locals < s₂.heap.objs.size := F₀.ns.lt
  have hLC : env.locals ≠ C := Nat.ne_of_lt (Nat.lt_of_lt_of_le hLlt hC)
  have hLD : env.locals ≠ D := Nat.ne_of_lt (Nat.lt_of_lt_of_le hLlt hD)
  show wpAny _ A (assign (.Name y py) env (.ref D)) _ _ _
  have F' : Fr h₀ env.locals h' m := ⟨F₀.ns.at' fun o e => hfr _ o hLw e, F.keep, F₀.above⟩
  have N' : News h₀ env.locals h' news := fun p hp => ⟨hfr _ _ (hnw p hp) (N₀ p hp).1, (N₀ p hp).2⟩
  refine wpAny_assign_Name (wpAny_storeName_local hy F'.ns (fun h₂ hn₂ hs₂ => ?_) hp)
  refine ⟨m', F.ns.sameBut hs₂ (Ne.symm hLC), fun h₃ hs₃ => ?_⟩
  obtain ⟨k, hk'⟩ := hl
  have lo : ∀ b o, h₀.get? b = some o → b < s₂.heap.objs.size := fun b o e => Heap.lt_size (F₀.keep b o e)
  have F₂ := F'.set hn₂ hs₂
  have F₃ : Fr h₀ env.locals h₃ (fun z => if z = y then some (.ref D) else m z) := ⟨F₂.ns.sameBut hs₃ hLC, fun b o e => hs₃.extBut b o (Nat.ne_of_lt (Nat.lt_of_lt_of_le (lo b o e) hC)) (F₂.keep b o e), F₂.above⟩
  refine hQ D h₃ _ rs k ?_ ?_ (Nat.le_succ_of_le htk) hlen (fun i r hr => let ⟨k, hk, e⟩ := hEl i r hr; ⟨k, Nat.le_succ_of_le hk, e⟩) F₃ ?_
  · exact fun p hp => Nat.lt_of_lt_of_le (Heap.lt_size (N₀ p hp).1) hD
  · intro p hp q hq e
    have h1 := hfree p hp
    rw [e, (N₀ q hq).1] at h1; cases h1
  · intro p hp
    rcases List.mem_cons.mp hp with rfl | hp
    · refine ⟨hs₃.extBut _ _ hDC (hs₂.extBut _ _ (Ne.symm hLD) hk'), Ne.symm hLD, ?_⟩
      cases e : h₀.get? D with
      | none => rfl
      | some o => exact absurd (lo _ _ e) (Nat.not_lt.mpr hD)
    · rcases List.mem_append.mp hp with hp | hp
      · have h1 := N p hp
        have hpL : p.1 ≠ env.locals := fun e => by
          obtain ⟨oL, _, _, hL, _⟩ := F₀.ns
          have h2 := hfree p hp
          rw [e, hL] at h2; cases h2
        exact ⟨hs₃.extBut _ _ h1.2.1 (hs₂.extBut _ _ hpL h1.1), hpL, h1.2.2⟩
      · have h1 := N' p hp
        have hpC : p.1 ≠ C := Nat.ne_of_lt (Nat.lt_of_lt_of_le (Heap.lt_size (N₀ p hp).1) hC)
        exact ⟨hs₃.extBut _ _ hpC (hs₂.extBut _ _ h1.2.1 h1.1), h1.2⟩

theorem compi_zip {elt : Expr} {elts : List Expr} {kk : Nat} {tpos : Pos} {ifs : List Expr} {scope : Scope} {cl : List (Str × Addr)} {h_b : Heap} {Fin : (Str → Option Value) → List (Addr × Obj) → Nat → (Nat → Option Value → List (Addr × Obj) → Nat → Prop) → Shared → Prop} {l1 l2 : Addr} {m : Str → Option Value} {news : List (Addr × Obj)} {xs ys : Array Value}
    (El : Nat → Option Value → List (Addr × Obj) → Nat → Prop) (hh : A.handled = none) (hl1 : s.heap.IsList l1 xs) (hl2 : s.heap.IsList l2 ys) (hsz : min xs.size ys.size ≤ sizeLine) (F : Fr h_b env.locals s.heap m) (N : News h_b env.locals s.heap news)
    (turn : ∀ C i v h tk m₁ olds, i < min xs.size ys.size → (∃ T vals, v = .ref T ∧ (∃ x y, xs[i]? = some x ∧ ys[i]? = some y ∧ vals = #[x, y]) ∧ h.IsTuple T vals) → s.toks ≤ tk → Fr h_b C h m₁ → News h_b C h olds →
      wpAny (model prog w) A (assign (.Tuple elts kk tpos) (compEnvC scope cl C env) v) (fun _ s₃ =>
        wpAny (model prog w) A (forIn ifs true fun c r => if r = true then do let ok ← isTrue c (compEnvC scope cl C env) (eval c (compEnvC scope cl C env)); pure (ForInStep.yield ok) else pure (ForInStep.yield r)) (fun ok s₄ =>
          if ok = true then wpAny (model prog w) A (eval elt (compEnvC scope cl C env)) (fun y s₅ => ElEnd h_b C olds (El i (some y)) s s₅) NoE s₄
          else ElEnd h_b C olds (El i none) s s₄) NoE s₃) NoE { s with heap := h, toks := tk })
    (fin : ∀ h', Fin m news (min xs.size ys.size) El { s with heap := h' }) :
    wpAny (model prog w) A (call (.type "zip") [.ref l1, .ref l2]) (fun xv s₁ => wpAny (model prog w) A (pyIter xv) (fun it s₂ => CompAtU prog w A env scope cl (.Tuple elts kk tpos) ifs elt h_b Fin it s₂) NoE s₁) NoE s := by
  have hbs : h_b.objs.size ≤ s.heap.objs.size := Nat.le_of_lt (Nat.lt_of_le_of_lt F.above F.ns.lt)
  have hlt1 : l1 < s.heap.objs.size := by obtain ⟨_, e, _⟩ := hl1; exact Heap.lt_size e
  have hlt2 : l2 < s.heap.objs.size := by obtain ⟨_, e, _⟩ := hl2; exact Heap.lt_size e
  have D : ZipApart (s.heap.objs.size + 4) (s.heap.objs.size + 2) (s.heap.objs.size + 3) s.heap.objs.size (s.heap.objs.size + 1) l1 l2 := ktu_apart _ _ _ hlt1 hlt2
  refine call_zip_2 hl1 hl2 fun h' hz hTI hTO hi1 hi2 hsz' hk => ?_
  refine wpAny_pyIter_zip hz ?_
  have Z := WalksT.zip2 (prog := prog) (w := w) hh _ _ _ _ _ _ _ D xs ys
  have hnone : ∀ b, s.heap.objs.size ≤ b → h_b.get? b = none := fun b hb' => by
    cases e : h_b.get? b with
    | none => rfl
    | some o => exact absurd (Heap.lt_size e) (Nat.not_lt.mpr (Nat.le_trans hbs hb'))
  refine ⟨m, news, _, _, _, _, _, _, _, El, rfl, KTurns.ofWalksU Z.toU, fun s' Q' E' st hQ => wpAny_pyIter_zip st.1 hQ, hsz, ?_, ?_, ?_, ⟨hz, hTI, ⟨_, _, hTO⟩, hi1, hi2, hl1.at fun o e => hk _ o e, hl2.at fun o e => hk _ o e⟩, F.keeps hk, N.grown hk, ?_, ?_, ?_, fin h'⟩
  · intro b hb'
    have hb' : b = s.heap.objs.size + 4 ∨ b = s.heap.objs.size + 2 ∨ b = s.heap.objs.size + 3 ∨ b = s.heap.objs.size ∨ b = s.heap.objs.size + 1 ∨ b = l1 ∨ b = l2 := by simpa using hb'
    show @LT.lt Nat _ b h'.objs.size
    rw [hsz']
    have hlt1' : @LT.lt Nat _ l1 s.heap.objs.size := hlt1
    have hlt2' : @LT.lt Nat _ l2 s.heap.objs.size := hlt2
    rcases hb' with rfl | rfl | rfl | rfl | rfl | rfl | rfl <;> omega
  · intro b hb'
    have hb' : b = s.heap.objs.size + 4 ∨ b = s.heap.objs.size + 3 ∨ b = s.heap.objs.size ∨ b = s.heap.objs.size + 1 := by simpa using hb'
    refine hnone b ?_
    rcases hb' with rfl | rfl | rfl | rfl
    · exact Nat.le_add_right _ _
    · exact Nat.le_add_right _ _
    · exact Nat.le_refl _
    · exact Nat.le_add_right _ _
  · rintro i h ⟨hz, hTI, ⟨a, b, hTO⟩, ⟨o1, ho1, hc1, _⟩, ⟨o2, ho2, hc2, _⟩, _⟩ b' hb'
    have hb' : b' = s.heap.objs.size + 4 ∨ b' = s.heap.objs.size + 3 ∨ b' = s.heap.objs.size ∨ b' = s.heap.objs.size + 1 := by simpa using hb'
    rcases hb' with rfl | rfl | rfl | rfl
    · exact ⟨_, hz⟩
    · exact ⟨_, hTO⟩
    · exact ⟨_, ho1⟩
    · exact ⟨_, ho2⟩
  · intro p hp hb'
    have hlt : @LT.lt Nat _ p.1 s.heap.objs.size := Heap.lt_size (N p hp).1
    have hb' : p.1 = s.heap.objs.size + 4 ∨ p.1 = s.heap.objs.size + 3 ∨ p.1 = s.heap.objs.size ∨ p.1 = s.heap.objs.size + 1 := by simpa using hb'
    rcases hb' with e | e | e | e <;> (rw [e] at hlt; omega)
  · intro hb'
    have hlt : @LT.lt Nat _ env.locals s.heap.objs.size := F.ns.lt
    have hb' : env.locals = s.heap.objs.size + 4 ∨ env.locals = s.heap.objs.size + 3 ∨ env.locals = s.heap.objs.size ∨ env.locals = s.heap.objs.size + 1 := by simpa using hb'
    rcases hb' with e | e | e | e <;> (rw [e] at hlt; omega)
  · exact fun C i v h tk m₁ olds a b c d e => turn C i v h tk m₁ olds a b c d e
end
end Part_cz

section Part_fct
/-- hyphens between -/
def joinL : List (List Nat) → List Nat
  | [] => []
  | y :: ys => y ++ ys.flatMap (fun q => 45 :: q)
theorem join_list : ∀ ts : List Str, (Str.join (Str.ofString "-") ts).cps.toList = joinL (ts.map (fun x => x.cps.toList))
  | [] => by decide +kernel
  | y :: ys => by rw [join_hy, List.map_cons, joinL, List.flatMap_map]
theorem joinL_map {f : Nat → Nat} (h : f 45 = 45) : ∀ l : List (List Nat), joinL (l.map (fun x => x.map f)) = (joinL l).map f
  | [] => rfl
  | y :: ys => by
    rw [List.map_cons, joinL, joinL, List.map_append]
    congr 1
    induction ys with
    | nil => rfl
    | cons q r ih => rw [List.map_cons, List.flatMap_cons, List.flatMap_cons, List.map_append, ih, List.map_cons, h]
theorem joinL_mem : ∀ (l : List (List Nat)) (c : Nat), c ∈ joinL l → c = 45 ∨ ∃ y ∈ l, c ∈ y
  | [], c, h => by cases h
  | y :: ys, c, h => by
    rcases List.mem_append.mp h with h | h
    · exact .inr ⟨y, .head _, h⟩
    · obtain ⟨q, hq, h⟩ := List.mem_flatMap.mp h
      rcases List.mem_cons.mp h with h | h
      · exact .inl h
      · exact .inr ⟨q, .tail _ hq, h⟩
theorem flat_len : ∀ (l : List (List Nat)), (l.flatMap (fun q => 45 :: q)).length = (l.map List.length).sum + l.length
  | [] => rfl
  | y :: ys => by
    have := flat_len ys
    rw [List.flatMap_cons, List.length_append, this, List.map_cons, List.sum_cons, List.length_cons, List.length_cons]; omega
theorem joinL_len : ∀ (l : List (List Nat)), (joinL l).length ≤ (l.map List.length).sum + l.length
  | [] => Nat.zero_le _
  | y :: ys => by
    rw [joinL, List.length_append, flat_len, List.map_cons, List.sum_cons, List.length_cons]; omega
theorem sqz_mem : ∀ (l : List Nat) (b : Bool) (y : Nat), y ∈ sqz b l → y = 45 ∨ y ∈ l
  | [], b, y, h => by rw [sqz] at h; cases h
  | c :: r, b, y, h => by
    rw [sqz] at h
    split at h
    · rcases sqz_mem r true y h with h | h
      · exact .inl h
      · exact .inr (.tail _ h)
    · split at h
      · rcases List.mem_cons.mp h with h | h
        · exact .inl h
        · rcases List.mem_cons.mp h with h | h
          · exact .inr (h ▸ .head _)
          · rcases sqz_mem r false y h with h | h
            · exact .inl h
            · exact .inr (.tail _ h)
      · rcases List.mem_cons.mp h with h | h
        · exact .inr (h ▸ .head _)
        · rcases sqz_mem r false y h with h | h
          · exact .inl h
          · exact .inr (.tail _ h)
theorem sqz_len : ∀ (l : List Nat) (b : Bool), (sqz b l).length ≤ l.length + (if b = true then 1 else 0)
  | [], b => by rw [sqz]; exact Nat.zero_le _
  | c :: r, b => by
    rw [sqz]
    split
    · have := sqz_len r true
      rw [if_pos rfl] at this
      rw [List.length_cons]; split <;> omega
    · have := sqz_len r false
      rw [if_neg Bool.false_ne_true] at this
      cases b <;> simp <;> omega
/-- the signs that may stand for * and ! -/
def menuL : List Nat := [46, 43, 45, 95, 47, 92, 58, 59, 34, 40, 41]
theorem menu_facts : ∀ m ∈ menuL, (∀ c ∈ unk, mface m ≠ c) ∧ mface (mface m) = mface m ∧ 33 ≤ m ∧ m < 127 ∧ 33 ≤ mface m ∧ mface m < 127 ∧ m ≠ 42 ∧ m ≠ 33 := by
  have h : menuL.all (fun m => unk.all (fun c => decide (mface m ≠ c)) && decide (mface (mface m) = mface m ∧ 33 ≤ m ∧ m < 127 ∧ 33 ≤ mface m ∧ mface m < 127 ∧ m ≠ 42 ∧ m ≠ 33)) = true := by decide +kernel
  intro m hm
  have := List.all_eq_true.mp h m hm
  rw [Bool.and_eq_true] at this
  exact ⟨fun c hc => of_decide_eq_true (List.all_eq_true.mp this.1 c hc), of_decide_eq_true this.2⟩
theorem sign_facts : ∀ d ∈ ixL ++ [45], (d = 42 ∨ d = 33 ∨ mface d = d) ∧ 33 ≤ d ∧ d < 127 := by
  have h : (ixL ++ [45]).all (fun d => decide ((d = 42 ∨ d = 33 ∨ mface d = d) ∧ 33 ≤ d ∧ d < 127)) = true := by decide +kernel
  exact fun d hd => of_decide_eq_true (List.all_eq_true.mp h d hd)
theorem unk_signs : ∀ c ∈ unk, c ≠ 42 ∧ c ≠ 33 := by decide
theorem g_unk {a b : Nat} (ha : a ∈ menuL) (hb : b ∈ menuL) : ∀ c ∈ unk, ∀ d, fm (mface a) (mface b) d = c ↔ d = c := by
  intro c hc d
  have h1 := unk_signs c hc
  have h2 := (menu_facts a ha).1 c hc
  have h3 := (menu_facts b hb).1 c hc
  unfold fm
  by_cases h : d = 42
  · rw [if_pos h]; exact ⟨fun e => absurd e h2, fun e => absurd (e.symm.trans h) h1.1⟩
  rw [if_neg h]
  by_cases h' : d = 33
  · rw [if_pos h']; exact ⟨fun e => absurd e h3, fun e => absurd (e.symm.trans h') h1.2⟩
  rw [if_neg h']
theorem mface_fm {a b d : Nat} (hd : d ∈ ixL ++ [45]) : mface (fm a b d) = fm (mface a) (mface b) d := by
  unfold fm
  by_cases h : d = 42
  · rw [if_pos h, if_pos h]
  rw [if_neg h, if_neg h]
  by_cases h' : d = 33
  · rw [if_pos h', if_pos h']
  rw [if_neg h', if_neg h']
  rcases (sign_facts d hd).1 with e | e | e
  · exact absurd e h
  · exact absurd e h'
  · exact e
theorem fm_range {a b d : Nat} (ha : 33 ≤ a ∧ a < 127) (hb : 33 ≤ b ∧ b < 127) (hd : d ∈ ixL ++ [45]) : 33 ≤ fm a b d ∧ fm a b d < 127 := by
  unfold fm
  split
  · exact ha
  split
  · exact hb
  exact (sign_facts d hd).2
/-- a stage's name -/
def nameL (a b : Nat) (S : List Nat) : List Nat := sqz false (S.map (fm (mface a) (mface b)))
theorem repl_mem {p : List Nat} (hp : p ≠ []) : ∀ (n : Nat) (x : List Nat), x.length = n → ∀ c ∈ replL p [] x, c ∈ x := by
  intro n
  induction n using Nat.strongRecOn with
  | ind n ih =>
    intro x hn c hc
    have hpl : 0 < p.length := List.length_pos_iff.mpr hp
    by_cases h : p <+: x
    · obtain ⟨r, rfl⟩ := h
      rw [replL_hit hp (List.prefix_append _ _), List.drop_left, List.nil_append] at hc
      rw [List.length_append] at hn
      exact List.mem_append_right _ (ih r.length (by omega) r rfl c hc)
    · cases x with
      | nil => rw [replL_nil] at hc; exact hc
      | cons d r =>
        rw [replL_miss h] at hc
        rcases List.mem_cons.mp hc with rfl | hc
        · exact .head _
        · exact .tail _ (ih r.length (by rw [← hn]; simp) r rfl c hc)
theorem name_first {a b : Nat} (ha : a ∈ menuL) (hb : b ∈ menuL) {S : List Nat} (hS : ∀ d ∈ S, d ∈ ixL ++ [45]) : sqz false (replL unk [] ((S.map (fm a b)).map mface)) = nameL a b (replL unk [] S) := by
  have e : (S.map (fm a b)).map mface = S.map (fm (mface a) (mface b)) := by
    rw [List.map_map]; exact List.map_congr_left fun d hd => mface_fm (hS d hd)
  rw [e, repl_map (by decide) _ _ rfl fun c hc d _ => g_unk ha hb c hc d]
  rfl
theorem name_fixed {a b : Nat} (ha : a ∈ menuL) (hb : b ∈ menuL) {S : List Nat} (hS : ∀ d ∈ S, d ∈ ixL ++ [45]) : (nameL a b S).map mface = nameL a b S := by
  conv => rhs; rw [← List.map_id (nameL a b S)]
  refine List.map_congr_left fun y hy => ?_
  rcases sqz_mem _ _ _ hy with rfl | hy
  · rfl
  · obtain ⟨d, hd, rfl⟩ := List.mem_map.mp hy
    rw [mface_fm (hS d hd), (menu_facts a ha).2.1, (menu_facts b hb).2.1]; rfl
theorem name_next {a b : Nat} (ha : a ∈ menuL) (hb : b ∈ menuL) {S : List Nat} (hS : ∀ d ∈ S, d ∈ ixL ++ [45]) : sqz false (replL unk [] ((nameL a b S).map mface)) = nameL a b (replL unk [] S) := by
  rw [name_fixed ha hb hS]
  unfold nameL
  rw [sqz_words _ _ _ _ rfl, repl_map (by decide) _ _ rfl fun c hc d _ => g_unk ha hb c hc d]
  rfl
theorem name_range {a b : Nat} (ha : a ∈ menuL) (hb : b ∈ menuL) {S : List Nat} (hS : ∀ d ∈ S, d ∈ ixL ++ [45]) : ∀ c ∈ nameL a b S, 33 ≤ c ∧ c < 127 := by
  intro c hc
  rcases sqz_mem _ _ _ hc with rfl | hc
  · decide
  · obtain ⟨d, hd, rfl⟩ := List.mem_map.mp hc
    have h1 := menu_facts a ha
    have h2 := menu_facts b hb
    exact fm_range ⟨h1.2.2.2.2.1, h1.2.2.2.2.2.1⟩ ⟨h2.2.2.2.2.1, h2.2.2.2.2.2.1⟩ (hS d hd)
theorem name_len (a b : Nat) (S : List Nat) : (nameL a b S).length ≤ S.length := by
  have := sqz_len (S.map (fm (mface a) (mface b))) false
  rw [if_neg Bool.false_ne_true, List.length_map] at this
  exact this
/-- the pieces' bounds -/
def bnd (cs : List Int) (n : Int) : List (Int × Int) := ((0 : Int) :: cs).zip (cs ++ [n])
def piece (x : List Nat) (q : Int × Int) : List Nat := (x.drop q.1.toNat).take (q.2.toNat - q.1.toNat)
theorem slice_piece {x : Str} {f b : Int} (hf : 0 ≤ f) (hfl : f ≤ x.length) (hb : 0 ≤ b) (hbl : b ≤ x.length) : (Txt.slice x (some f) (some b)).cps.toList = piece x.cps.toList (f, b) := by
  rw [slice_list]
  have e1 : loI x.length (some f) = f.toNat := by show clipI _ _ = _; unfold clipI; rw [if_neg (by omega)]; omega
  have e2 : hiI x.length (some b) = b.toNat := by show clipI _ _ = _; unfold clipI; rw [if_neg (by omega)]; omega
  rw [e1, e2]; rfl
theorem tele : ∀ (cs : List Int) (s n : Int), cs.Pairwise (· ≤ ·) → (∀ x ∈ cs, s ≤ x ∧ x ≤ n) → 0 ≤ s → s ≤ n → (((s :: cs).zip (cs ++ [n])).map (fun q => q.2.toNat - q.1.toNat)).sum = n.toNat - s.toNat
  | [], s, n, _, _, _, _ => by simp
  | c :: cs, s, n, hp, hc, h0, hn => by
    have h1 := hc c (.head _)
    have h2 := tele cs c n (List.pairwise_cons.mp hp).2 (fun x hx => ⟨(List.pairwise_cons.mp hp).1 x hx, (hc x (.tail _ hx)).2⟩) (by omega) h1.2
    rw [List.cons_append, List.zip_cons_cons, List.map_cons, List.sum_cons, h2]
    show c.toNat - s.toNat + _ = _
    rw [Nat.add_comm]
    exact Nat.sub_add_sub_cancel (Int.toNat_le_toNat h1.2) (Int.toNat_le_toNat h1.1)
theorem bnd_mem {page : Str} {cuts : List Int} (hg : GoodPage page cuts) : ∀ q ∈ bnd cuts page.length, 0 ≤ q.1 ∧ q.1 ≤ page.length ∧ 0 ≤ q.2 ∧ q.2 ≤ page.length := by
  intro q hq
  obtain ⟨h1, h2⟩ := List.of_mem_zip hq
  have e1 : 0 ≤ q.1 ∧ q.1 ≤ page.length := by
    rcases List.mem_cons.mp h1 with e | h
    · rw [e]; omega
    · exact hg.c _ h
  have e2 : 0 ≤ q.2 ∧ q.2 ≤ page.length := by
    rcases List.mem_append.mp h2 with h | h
    · exact hg.c _ h
    · rw [List.mem_singleton.mp h]; omega
  exact ⟨e1.1, e1.2, e2.1, e2.2⟩
theorem bnd_len {cuts : List Int} {n : Int} : (bnd cuts n).length = cuts.length + 1 := by unfold bnd; simp
/-- the joined pieces -/
def joinedL (x : List Nat) (bs : List (Int × Int)) : List Nat := joinL ((bs.map (piece x)).filter (fun y => !y.isEmpty))
theorem sum_filter (p : List Nat → Bool) : ∀ l : List (List Nat), ((l.filter p).map List.length).sum ≤ (l.map List.length).sum
  | [] => Nat.le_refl _
  | y :: ys => by
    have := sum_filter p ys
    rw [List.filter_cons, List.map_cons, List.sum_cons]
    split
    · rw [List.map_cons, List.sum_cons]; omega
    · omega
theorem joined_len {page : Str} {cuts : List Int} (hg : GoodPage page cuts) : (joinedL page.cps.toList (bnd cuts page.length)).length ≤ 220 := by
  have h1 := joinL_len (((bnd cuts page.length).map (piece page.cps.toList)).filter (fun y => !y.isEmpty))
  have h2 := sum_filter (fun y => !y.isEmpty) ((bnd cuts page.length).map (piece page.cps.toList))
  have h3 : (((bnd cuts page.length).map (piece page.cps.toList)).map List.length).sum ≤ ((bnd cuts page.length).map (fun q => q.2.toNat - q.1.toNat)).sum := by
    rw [List.map_map]
    generalize bnd cuts page.length = l
    induction l with
    | nil => exact Nat.le_refl _
    | cons q r ih =>
      rw [List.map_cons, List.map_cons, List.sum_cons, List.sum_cons]
      refine Nat.add_le_add ?_ ih
      show (piece page.cps.toList q).length ≤ _
      unfold piece
      rw [List.length_take]; exact Nat.min_le_left _ _
  have h4 := tele cuts 0 page.length hg.cs hg.c (Int.le_refl _) (by omega)
  have h5 : (((bnd cuts page.length).map (piece page.cps.toList)).filter (fun y => !y.isEmpty)).length ≤ cuts.length + 1 := by
    refine Nat.le_trans (List.length_filter_le _ _) ?_
    rw [List.length_map, bnd_len]; exact Nat.le_refl _
  have h6 := hg.cl
  have h7 := hg.len
  unfold joinedL
  unfold bnd at h1 h2 h3 h5 ⊢
  rw [h4] at h3
  omega
theorem piece_map (f : Nat → Nat) (x : List Nat) (q : Int × Int) : piece (x.map f) q = (piece x q).map f := by
  unfold piece; rw [← List.map_drop, ← List.map_take]
theorem joined_map {f : Nat → Nat} (h : f 45 = 45) (x : List Nat) (bs : List (Int × Int)) : joinedL (x.map f) bs = (joinedL x bs).map f := by
  unfold joinedL
  rw [← joinL_map h]
  congr 1
  induction bs with
  | nil => rfl
  | cons q r ih =>
    rw [List.map_cons, List.map_cons, List.filter_cons, List.filter_cons, piece_map, ih]
    have e : ((piece x q).map f).isEmpty = (piece x q).isEmpty := by cases piece x q <;> rfl
    rw [e]
    split <;> rfl
theorem joined_mem {page : Str} {cuts : List Int} (hm : ∀ c ∈ page.cps.toList, c ∈ ixL) (bs : List (Int × Int)) : ∀ d ∈ joinedL page.cps.toList bs, d ∈ ixL ++ [45] := by
  intro d hd
  rcases joinL_mem _ _ hd with rfl | ⟨y, hy, hd⟩
  · exact List.mem_append_right _ (.head _)
  · have h1 := (List.mem_filter.mp hy).1
    obtain ⟨q, _, rfl⟩ := List.mem_map.mp h1
    exact List.mem_append_left _ (hm d (List.mem_of_mem_drop (List.mem_of_mem_take hd)))
/-- what platform joins of the told pieces -/
theorem told_join {ts : List Str} {x : List Nat} {bs : List (Int × Int)} (h : ts.map (fun t => t.cps.toList) = bs.map (piece x)) : (Str.join (Str.ofString "-") (nonE ts)).cps.toList = joinedL x bs := by
  rw [join_list]
  unfold joinedL nonE
  rw [← h, List.filter_map]
  congr 2
  refine List.filter_congr fun t _ => ?_
  simp only [Function.comp]
  rw [len_list]
  cases t.cps.toList <;> rfl
theorem one_join {t : Str} : (Str.join (Str.ofString "-") (nonE [t])).cps.toList = t.cps.toList := by
  rw [join_list]
  unfold nonE
  rw [List.filter_cons]
  split
  · rw [List.filter_nil, List.map_cons]; simp [joinL]
  · rename_i h
    have : t.cps.toList = [] := by
      refine List.length_eq_zero_iff.mp ?_
      rw [← len_list]; simpa using h
    rw [this]; rfl
theorem stage_mem {J rounds : List Nat} {t : Nat} : ∀ d ∈ stage J rounds t, d ∈ J := by
  intro d hd
  obtain ⟨p, hp, rfl⟩ := List.mem_map.mp hd
  exact (List.of_mem_zip (List.mem_filter.mp hp).1).1
theorem stage_len (J rounds : List Nat) (t : Nat) : (stage J rounds t).length ≤ J.length := by
  unfold stage
  rw [List.length_map]
  refine Nat.le_trans (List.length_filter_le _ _) ?_
  rw [List.length_zip]; exact Nat.min_le_left _ _
end Part_fct

section Part_fcu
def tup2 (x y : Value) : Obj := { cls := .type "tuple", data := .seq #[x, y] }
/-- a list of pairs of numbers, as tuples on the ledger -/
def TupsOf (bs : List (Int × Int)) (led : List (Addr × Obj)) (vs : List Value) : Prop :=
  vs.length = bs.length ∧ ∀ (i : Nat) (q : Int × Int), bs[i]? = some q → ∃ T t u, vs[i]? = some (.ref T) ∧ (T, tup2 (.int q.1 t) (.int q.2 u)) ∈ led
theorem fm_some : ∀ (rs : List (Option Value × List (Addr × Obj))), (∀ (i : Nat) r, rs[i]? = some r → ∃ v, r.1 = some v) → ∀ i : Nat, (rs.filterMap (·.1))[i]? = (rs[i]?).bind (·.1)
  | [], _, i => by simp
  | r :: rs, h, i => by
    obtain ⟨v, hv⟩ := h 0 r rfl
    have ih := fm_some rs (fun i r hr => h (i + 1) r (by simpa using hr))
    rw [List.filterMap_cons, hv]
    cases i with
    | zero => simp [hv]
    | succ i => simpa using ih i
theorem fm_len : ∀ (rs : List (Option Value × List (Addr × Obj))), (∀ (i : Nat) r, rs[i]? = some r → ∃ v, r.1 = some v) → (rs.filterMap (·.1)).length = rs.length
  | [], _ => rfl
  | r :: rs, h => by
    obtain ⟨v, hv⟩ := h 0 r rfl
    have ih := fm_len rs (fun i r hr => h (i + 1) r (by simpa using hr))
    rw [List.filterMap_cons, hv]
    simpa using ih
theorem ints_at : ∀ {vs : List Value} {ns : List Int}, IntsAre vs ns → ∀ {i : Nat} {x : Int}, ns[i]? = some x → ∃ t, vs[i]? = some (.int x t)
  | _, _, .nil, i, x, h => by simp at h
  | _, _, .cons n t r, 0, x, h => by
    have : n = x := by simpa using h
    exact ⟨t, by simp [this]⟩
  | _, _, .cons n t r, i + 1, x, h => by
    obtain ⟨t', h'⟩ := ints_at r (i := i) (x := x) (by simpa using h)
    exact ⟨t', by simpa using h'⟩
theorem tups_of {cvs : List Value} {cuts : List Int} {n : Int} {t0 tn tk : Nat} {rs : List (Option Value × List (Addr × Obj))} (hc : IntsAre cvs cuts)
    (hlen : rs.length = min ([Value.int 0 t0] ++ cvs).toArray.size (cvs ++ [Value.int n tn]).toArray.size)
    (hEl : ∀ (i : Nat) (r : Option Value × List (Addr × Obj)), rs[i]? = some r → ∃ k, k ≤ tk ∧ (fun (i : Nat) (r : Option Value) (objs : List (Addr × Obj)) (_ : Nat) => ∃ T x y, r = some (Value.ref T) ∧ objs = [(T, ({ cls := Value.type "tuple", data := Data.seq #[x, y] } : Obj))] ∧ ([Value.int 0 t0] ++ cvs)[i]? = some x ∧ (cvs ++ [Value.int n tn])[i]? = some y) i r.fst r.snd k) :
    TupsOf (bnd cuts n) (rs.flatMap (·.2)) (rs.filterMap (·.1)) := by
  have hsome : ∀ (i : Nat) r, rs[i]? = some r → ∃ v, r.1 = some v := fun i r hr => by
    obtain ⟨_, _, T, x, y, h1, _⟩ := hEl i r hr
    exact ⟨_, h1⟩
  have hl : rs.length = cuts.length + 1 := by
    rw [hlen, List.size_toArray, List.size_toArray, List.length_append, List.length_append, hc.length]
    simp only [List.length_singleton]
    omega
  refine ⟨by rw [fm_len _ hsome, bnd_len, hl], fun i q hq => ?_⟩
  have hi : i < rs.length := by
    rw [hl, ← bnd_len (cuts := cuts) (n := n)]
    exact (List.getElem?_eq_some_iff.mp hq).1
  obtain ⟨_, _, T, x, y, h1, h2, hx, hy⟩ := hEl i rs[i] (List.getElem?_eq_getElem hi)
  unfold bnd at hq
  rw [List.getElem?_zip_eq_some] at hq
  have I1 : IntsAre ([Value.int 0 t0] ++ cvs) (0 :: cuts) := .cons 0 t0 hc
  have I2 : IntsAre (cvs ++ [Value.int n tn]) (cuts ++ [n]) := IntsAre.append hc (.cons n tn .nil)
  obtain ⟨t, ht⟩ := ints_at I1 hq.1
  obtain ⟨u, hu⟩ := ints_at I2 hq.2
  rw [hx] at ht; rw [hy] at hu
  cases ht; cases hu
  refine ⟨T, t, u, ?_, List.mem_flatMap.mpr ⟨rs[i], List.getElem_mem hi, ?_⟩⟩
  · rw [fm_some _ hsome, List.getElem?_eq_getElem hi]; exact h1
  · rw [h2]; exact .head _
theorem strs_picked {x : Str} {bs : List (Int × Int)} : ∀ {rs : List (Option Value × List (Addr × Obj))} {qs : List (Int × Int)} , rs.length = qs.length →
    (∀ (i : Nat) r, rs[i]? = some r → ∃ q, qs[i]? = some q ∧ (if q.1 < q.2 then ∃ t, r.1 = some (.str (Txt.slice x (some q.1) (some q.2)) t) else r.1 = none)) →
    StrsAre (rs.filterMap (·.1)) ((qs.filter (fun q => decide (q.1 < q.2))).map (fun q => Txt.slice x (some q.1) (some q.2)))
  | [], [], _, _ => .nil
  | [], _ :: _, h, _ => nomatch h
  | _ :: _, [], h, _ => nomatch h
  | r :: rs, q :: qs, hl, h => by
    have ih := strs_picked (bs := bs) (rs := rs) (qs := qs) (by simpa using hl) (fun i r hr => by simpa using h (i + 1) r (by simpa using hr))
    obtain ⟨q', hq', hr⟩ := h 0 r rfl
    have : q = q' := by simpa using hq'
    subst this
    rw [List.filterMap_cons, List.filter_cons]
    by_cases hlt : q.1 < q.2
    · rw [if_pos hlt] at hr
      obtain ⟨t, ht⟩ := hr
      rw [ht, if_pos (decide_eq_true hlt)]
      exact .cons _ t ih
    · rw [if_neg hlt] at hr
      rw [hr, if_neg (by simpa using hlt)]
      exact ih
theorem piece_pos {x : List Nat} {q : Int × Int} (h0 : 0 ≤ q.1) (h1 : q.2 ≤ x.length) : (!(piece x q).isEmpty) = decide (q.1 < q.2) := by
  unfold piece
  have hl : ((x.drop q.1.toNat).take (q.2.toNat - q.1.toNat)).length = min (q.2.toNat - q.1.toNat) (x.length - q.1.toNat) := by rw [List.length_take, List.length_drop]
  by_cases h : q.1 < q.2
  · rw [decide_eq_true h]
    cases e : (x.drop q.1.toNat).take (q.2.toNat - q.1.toNat) with
    | nil => rw [e] at hl; simp only [List.length_nil] at hl; omega
    | cons a r => rfl
  · rw [decide_eq_false h]
    cases e : (x.drop q.1.toNat).take (q.2.toNat - q.1.toNat) with
    | nil => rfl
    | cons a r => rw [e] at hl; simp only [List.length_cons] at hl; omega
/-- what the law joins -/
theorem joined_list {page : Str} {cuts : List Int} (hg : GoodPage page cuts) :
    (Str.join (Str.ofString "-") (((bnd cuts page.length).filter (fun q => decide (q.1 < q.2))).map (fun q => Txt.slice page (some q.1) (some q.2)))).cps.toList = joinedL page.cps.toList (bnd cuts page.length) := by
  rw [join_list]
  unfold joinedL
  congr 1
  have hb := bnd_mem hg
  generalize bnd cuts page.length = l at hb
  induction l with
  | nil => rfl
  | cons q r ih =>
    have h1 := hb q (.head _)
    rw [List.filter_cons, List.map_cons, List.filter_cons, piece_pos h1.1 (by rw [← len_list]; exact h1.2.2.2)]
    split
    · rw [List.map_cons, List.map_cons, ih fun q hq => hb q (.tail _ hq), slice_piece h1.1 h1.2.1 h1.2.2.1 h1.2.2.2]
    · exact ih fun q hq => hb q (.tail _ hq)
theorem all_cons {a d : Addr} {o : Obj} {r : List (Addr × Obj)} (h : a ≠ d) (hr : ∀ p ∈ r, p.1 ≠ d) : ∀ p ∈ (a, o) :: r, p.1 ≠ d := fun p hp => by
  rcases List.mem_cons.mp hp with rfl | hp
  · exact h
  · exact hr p hp
theorem all_nil {d : Addr} : ∀ p ∈ ([] : List (Addr × Obj)), p.1 ≠ d := fun p hp => nomatch hp
theorem news_rot {h₀ h : Heap} {L : Addr} {x y1 y2 y3 y4 y5 y6 c1 c2 c3 c4 c5 : Addr × Obj} {tl : List (Addr × Obj)} (N : News h₀ L h (x :: (tl ++ [y1, y2, y3, y4, y5, y6, c5, c4, c3, c2, c1]))) : News h₀ L h (x :: c5 :: c4 :: c3 :: c2 :: c1 :: tl) := fun q hq => N q (by
  simp only [List.mem_cons, List.mem_append, List.not_mem_nil, or_false] at hq ⊢
  rcases hq with h | h | h | h | h | h | h <;> simp [h])
theorem lt_rot {y1 y2 y3 y4 y5 y6 : Addr × Obj} {a1 a2 a3 a4 a5 D : Addr} {o1 o2 o3 o4 o5 : Obj} (h : ∀ p ∈ [y1, y2, y3, y4, y5, y6, (a5, o5), (a4, o4), (a3, o3), (a2, o2), (a1, o1)], p.1 < D) :
    @LT.lt Nat _ a1 D ∧ @LT.lt Nat _ a2 D ∧ @LT.lt Nat _ a3 D ∧ @LT.lt Nat _ a4 D ∧ @LT.lt Nat _ a5 D :=
  ⟨h (a1, o1) (by simp), h (a2, o2) (by simp), h (a3, o3) (by simp), h (a4, o4) (by simp), h (a5, o5) (by simp)⟩
theorem ne_rot {y1 y2 y3 y4 y5 y6 : Addr × Obj} {a1 a2 a3 a4 a5 : Addr} {o1 o2 o3 o4 o5 : Obj} {tl : List (Addr × Obj)} (h : ∀ p ∈ tl, ∀ q ∈ [y1, y2, y3, y4, y5, y6, (a5, o5), (a4, o4), (a3, o3), (a2, o2), (a1, o1)], p.1 ≠ q.1) :
    (∀ p ∈ tl, p.1 ≠ a1) ∧ (∀ p ∈ tl, p.1 ≠ a2) ∧ (∀ p ∈ tl, p.1 ≠ a3) ∧ (∀ p ∈ tl, p.1 ≠ a4) ∧ (∀ p ∈ tl, p.1 ≠ a5) :=
  ⟨fun p hp => h p hp (a1, o1) (by simp), fun p hp => h p hp (a2, o2) (by simp), fun p hp => h p hp (a3, o3) (by simp), fun p hp => h p hp (a4, o4) (by simp), fun p hp => h p hp (a5, o5) (by simp)⟩
section
variable {prog : Program} {w : World} {A : Around} {E : Value → Shared → Prop} {s : Shared} {C a : Addr} {scope : Scope} {cl : List (Str × Addr)} {env : Env} {x : Str} {v : Value} {pos : Pos} {o : Obj}
theorem cc_free {Q : Value → Shared → Prop} (hc : cl.lookup x = some a) (ho : s.heap.get? a = some o) (hd : o.data = .cell (some v)) (h : Q v s)
    (hk : (compEnvC scope cl C env).scope.kind = .function) (hl : (compEnvC scope cl C env).kindOf x = some .free) (hb : (x == ("__debug__" : Str)) = false) (hn : (x == ("__classdict__" : Str)) = false) :
    wpAny (model prog w) A (eval (.Name x pos) (compEnvC scope cl C env)) Q E s := wpAny_Name (wpAny_loadName_free hk hl hc ⟨o, ho, hd⟩ h hn) hb
end
end Part_fcu

section Part_fcv
/-- at least one piece is not empty -/
theorem joined_pos {page : Str} {cuts : List Int} (hg : GoodPage page cuts) : 1 ≤ (joinedL page.cps.toList (bnd cuts page.length)).length := by
  have h4 := tele cuts 0 page.length hg.cs hg.c (Int.le_refl _) (by omega)
  have hp := hg.pos
  have hex : ∃ q ∈ bnd cuts page.length, q.1 < q.2 := by
    apply Classical.byContradiction
    intro hno
    have h0 : ∀ q ∈ bnd cuts page.length, q.2.toNat - q.1.toNat = 0 := fun q hq => by
      have : ¬ q.1 < q.2 := fun h => hno ⟨q, hq, h⟩
      omega
    have : ((bnd cuts page.length).map (fun q => q.2.toNat - q.1.toNat)).sum = 0 := by
      generalize bnd cuts page.length = l at h0
      induction l with
      | nil => rfl
      | cons a r ih => rw [List.map_cons, List.sum_cons, h0 a (.head _), ih fun q hq => h0 q (.tail _ hq)]
    unfold bnd at this
    rw [h4] at this
    omega
  obtain ⟨q, hq, hlt⟩ := hex
  have hb := bnd_mem hg q hq
  have hy := piece_pos (x := page.cps.toList) (q := q) hb.1 (by rw [← len_list]; exact hb.2.2.2)
  rw [decide_eq_true hlt] at hy
  have hm : piece page.cps.toList q ∈ ((bnd cuts page.length).map (piece page.cps.toList)).filter (fun y => !y.isEmpty) := List.mem_filter.mpr ⟨List.mem_map.mpr ⟨q, hq, rfl⟩, hy⟩
  unfold joinedL
  have hall : ∀ z ∈ ((bnd cuts page.length).map (piece page.cps.toList)).filter (fun y => !y.isEmpty), z ≠ [] := fun z hz e => by
    have := (List.mem_filter.mp hz).2
    rw [e] at this; cases this
  generalize ((bnd cuts page.length).map (piece page.cps.toList)).filter (fun y => !y.isEmpty) = l at hm hall
  cases l with
  | nil => cases hm
  | cons a r =>
    have ha := hall a (.head _)
    rw [joinL, List.length_append]
    have := List.length_pos_iff.mpr ha
    omega
theorem picks_from {f : Nat → Str} {p : Nat → Bool} : ∀ (n a : Nat) {rs : List (Option Value × List (Addr × Obj))}, rs.length = n →
    (∀ (i : Nat) (r : Option Value × List (Addr × Obj)), rs[i]? = some r → (if p (a + i) = true then ∃ t, r.1 = some (.str (f (a + i)) t) else r.1 = none)) →
    StrsAre (rs.filterMap (·.1)) (((List.range' a n).filter p).map f)
  | 0, a, [], _, _ => .nil
  | 0, _, _ :: _, h, _ => nomatch h
  | _ + 1, _, [], h, _ => nomatch h
  | n + 1, a, r :: rs, hl, h => by
    have ih := picks_from (f := f) (p := p) n (a + 1) (rs := rs) (by simpa using hl) (fun i r hr => by
      have := h (i + 1) r (by simpa using hr)
      rwa [show a + (i + 1) = a + 1 + i by omega] at this)
    have h0 := h 0 r rfl
    rw [Nat.add_zero] at h0
    rw [List.range'_succ, List.filter_cons, List.filterMap_cons]
    by_cases hp : p a = true
    · rw [if_pos hp] at h0 ⊢
      obtain ⟨t, ht⟩ := h0
      rw [ht]
      exact .cons _ _ ih
    · rw [if_neg hp] at h0 ⊢
      rw [h0]
      exact ih
theorem picks {f : Nat → Str} {p : Nat → Bool} {n : Nat} {rs : List (Option Value × List (Addr × Obj))} (hl : rs.length = n)
    (h : ∀ (i : Nat) (r : Option Value × List (Addr × Obj)), rs[i]? = some r → (if p i = true then ∃ t, r.1 = some (.str (f i) t) else r.1 = none)) :
    StrsAre (rs.filterMap (·.1)) (((List.range n).filter p).map f) := by
  rw [List.range_eq_range']
  exact picks_from n 0 hl fun i r hr => by rw [Nat.zero_add]; exact h i r hr
/-- an item of a list that stands in the heap -/
theorem heap_item {prog : Program} {w : World} {A : Around} {E : Value → Shared → Prop} {s : Shared} {D : Addr} {vs : List Value} {k : Int} {u : Tok} {v : Value} {value slice : Expr} {Q : Value → Shared → Prop}
    (hl : s.heap.IsList D vs.toArray) (h0 : 0 ≤ k) (hhi : k < 2 ^ 63) (hx : vs[k.toNat]? = some v) (h : Q v s)
    (hs : subscripted slice false (.ref D) (.int k u) = operate [.ref D, .int k u] (getItem (.ref D) (.int k u))) : wpAny (model prog w) A (subscriptTail value slice (.ref D) (.int k u)) Q E s :=
  tail_any hl.typeIs slot_list_getitem.lookup (wpAny_getItem_list hl h0 hhi (by simpa using hx) h) hs
theorem off_map {I : Addr} {l l' : List (Addr × Obj)} (e : l'.map (·.1) = l.map (·.1)) (h : ∀ p ∈ l, p.1 ≠ I) : ∀ p ∈ l', p.1 ≠ I := fun p hp => by
  have : p.1 ∈ l.map (·.1) := e ▸ List.mem_map.mpr ⟨p, hp, rfl⟩
  obtain ⟨q, hq, e2⟩ := List.mem_map.mp this
  rw [← e2]; exact h q hq
theorem snoc_all {α : Type} {l : List α} {x : α} {n : Nat} {P : Nat → α → Prop} (hl : l.length = n) (h : ∀ (j : Nat) (t : α), l[j]? = some t → P j t) (hx : P n x) : ∀ (j : Nat) (t : α), (l ++ [x])[j]? = some t → P j t := by
  intro j t e
  by_cases hj : j < l.length
  · rw [List.getElem?_append_left hj] at e; exact h j t e
  · rw [List.getElem?_append_right (by omega)] at e
    have h0 : j - l.length = 0 := by
      cases q : j - l.length with
      | zero => rfl
      | succ k => rw [q] at e; simp at e
    rw [h0] at e
    have : x = t := by simpa using e
    rw [← this, show j = n by omega]; exact hx
theorem data_lt (l : List Nat) : ∀ x ∈ dataOf l, x < 256 := fun x hx => octN_lt _ _ x (List.mem_of_mem_take hx)
theorem data_back (l : List Nat) : (((dataOf l).map UInt8.ofNat).toArray.toList.map UInt8.toNat) = dataOf l := by
  show ((dataOf l).map UInt8.ofNat).map UInt8.toNat = dataOf l
  rw [List.map_map]
  conv => rhs; rw [← List.map_id (dataOf l)]
  exact List.map_congr_left fun c hc => UInt8.toNat_ofNat_of_lt' (data_lt l c hc)
theorem data_size {page : Str} {cuts : List Int} (hg : GoodPage page cuts) : ((dataOf page.cps.toList).map UInt8.ofNat).toArray.size ≤ 1000 := by
  rw [List.size_toArray, List.length_map]
  unfold dataOf octs
  rw [List.length_take, octN_len, ← len_list]
  have := hg.len
  omega
/-- a writing of the page with two signs of its own -/
def wrote (page : Str) (a b : Nat) : Array UInt8 := ((page.cps.toList.map (fm a b)).map UInt8.ofNat).toArray
theorem enc_std {page : Str} {cuts : List Int} (hg : GoodPage page cuts) : ((encode (((dataOf page.cps.toList).map UInt8.ofNat).toArray.toList.map UInt8.toNat)).map UInt8.ofNat).toArray = wrote page 43 47 := by
  rw [data_back, encode_page hg]; rfl
theorem ixL_facts : ∀ d ∈ ixL, d ≠ 43 ∧ d ≠ 47 ∧ d < 128 := by
  have h : ixL.all (fun d => decide (d ≠ 43 ∧ d ≠ 47 ∧ d < 128)) = true := by decide +kernel
  exact fun d hd => of_decide_eq_true (List.all_eq_true.mp h d hd)
theorem enc_tr {page : Str} {cuts : List Int} (hg : GoodPage page cuts) {a b : Nat} (ha : a < 256) (hb : b < 256) :
    transl ((encode (((dataOf page.cps.toList).map UInt8.ofNat).toArray.toList.map UInt8.toNat)).map UInt8.ofNat).toArray (swap (UInt8.ofNat a) (UInt8.ofNat b)) = wrote page a b := by
  rw [data_back, encode_page hg, transl_swap a b ha hb]
  · unfold wrote
    have e : (page.cps.toList.map (fm 43 47)).map (fun c => if c = 47 then b else if c = 43 then a else c) = page.cps.toList.map (fm a b) := ?_
    · rw [e]
    rw [List.map_map]
    refine List.map_congr_left fun d hd => ?_
    have h := ixL_facts d (page_mem hg d hd)
    simp only [Function.comp]
    unfold fm
    by_cases h1 : d = 42
    · rw [if_pos h1, if_pos h1, if_neg (by decide), if_pos rfl]
    rw [if_neg h1, if_neg h1]
    by_cases h2 : d = 33
    · rw [if_pos h2, if_pos h2, if_pos rfl]
    rw [if_neg h2, if_neg h2, if_neg h.2.1, if_neg h.1]
  · intro c hc
    obtain ⟨d, hd, rfl⟩ := List.mem_map.mp hc
    have h := ixL_facts d (page_mem hg d hd)
    unfold fm
    split
    · decide
    split
    · decide
    exact h.2.2
/-- the law's own two signs -/
def menuS : Str := Str.ofString ".+-_/\\:;\"()"
theorem menu_list : menuS.cps.toList = menuL := by decide +kernel
theorem menu_item (k : Int) (h0 : 0 ≤ k) (h1 : k < 11) : ∃ a, a ∈ menuL ∧ (Txt.item menuS k).cps.toList = [a] := by
  have hk : k.toNat < menuL.length := by show k.toNat < 11; omega
  refine ⟨menuL[k.toNat], List.getElem_mem hk, ?_⟩
  have := item_list (x := menuS) (i := k.toNat) (c := menuL[k.toNat]) (by rw [menu_list]; exact List.getElem?_eq_getElem hk)
  rwa [show ((k.toNat : Nat) : Int) = k by omega] at this
theorem own_text (n m : Int) : ∃ a b, a ∈ menuL ∧ b ∈ menuL ∧ Txt.item menuS (n.fmod 11) ++ Txt.item menuS (m.fmod 11) = ⟨#[a, b]⟩ := by
  obtain ⟨a, ha, ea⟩ := menu_item (n.fmod 11) (Int.fmod_nonneg_of_pos _ (by decide)) (Int.fmod_lt_of_pos _ (by decide))
  obtain ⟨b, hb, eb⟩ := menu_item (m.fmod 11) (Int.fmod_nonneg_of_pos _ (by decide)) (Int.fmod_lt_of_pos _ (by decide))
  exact ⟨a, b, ha, hb, str_ext (by rw [cps_add, ea, eb]; rfl)⟩
end Part_fcv

section Part_fcx
section
variable {prog : Program} {w : World} {A : Around} {E : Value → Shared → Prop} {s : Shared} {h_b : Heap} {C : Addr} {m mg mb : Str → Option Value} {scope : Scope} {cl : List (Str × Addr)} {env : Env} {x : Str} {v : Value} {pos : Pos}
  {p : Program} {loose : List Str} {K : Frag}
/-- a built-in's name within a comprehension, from its ground -/
theorem cc_blt {Q : Value → Shared → Prop} (F : Fr h_b C s.heap m) (X : K.In h_b) (T : TopRead p loose mg mb h_b) (e : nsIn K mainGlobals x = some none) (hv : bootBuiltins x = some v) (hn : x ≠ "__name__") (h : Q v s) (hg : env.globals = mainGlobals) (hb : env.builtins = builtinsNs)
    (hk : (compEnvC scope cl C env).scope.kind = .function) (hx : (compEnvC scope cl C env).kindOf x = some .globalImplicit) (hd : (x == ("__debug__" : Str)) = false) :
    wpAny (model prog w) A (eval (.Name x pos) (compEnvC scope cl C env)) Q E s :=
  cc_built (X.keeps F.keep) (T.keeps F.keep) e hv hn h hg hb hk hx hd
end
theorem two_ints {ca cb : Nat} {rs : List (Option Value × List (Addr × Obj))} {tk : Nat} (hl : rs.length = 2)
    (h : ∀ (i : Nat) (r : Option Value × List (Addr × Obj)), rs[i]? = some r → ∃ k, k ≤ tk ∧ r.2 = [] ∧ ∃ (c : Nat) (t : Tok), #[ca, cb][i]? = some c ∧ r.1 = some (.int (c : Int) t)) :
    ∃ t u, rs.filterMap (·.1) = [.int (ca : Int) t, .int (cb : Int) u] := by
  obtain ⟨r0, r1, rfl⟩ := two_of hl
  obtain ⟨_, _, _, c, t, h1, h2⟩ := h 0 r0 rfl
  obtain ⟨_, _, _, d, u, h3, h4⟩ := h 1 r1 rfl
  have e1 : ca = c := Option.some.inj h1
  have e2 : cb = d := Option.some.inj h3
  subst e1 e2
  exact ⟨t, u, by simp [List.filterMap_cons, h2, h4]⟩
section
variable {prog : Program} {w : World} {A : Around} {E : Value → Shared → Prop} {s : Shared} {Q : Value → Shared → Prop} {t : Tok}
theorem ord_one {c : Nat} (h : Q (.int c s.toks) { s with toks := s.toks + 1 }) : wpAny (model prog w) A (call (.builtin "ord") [.str ⟨#[c]⟩ t]) Q E s := P.ord_of_char h
theorem chr_one {c : Nat} (hc : c < 256) (h : Q (.str ⟨#[c]⟩ s.toks) { s with toks := s.toks + 1 }) : wpAny (model prog w) A (call (.builtin "chr") [.int (c : Int) t]) Q E s :=
  P.chr_of_int (by rw [Bool.or_eq_false_iff, decide_eq_false_iff_not, decide_eq_false_iff_not]; omega) (by rw [Int.toNat_natCast]; exact h)
end
end Part_fcx

section Part_fcy
/-- a code table, out of and into a heap -/
theorem tab_out {c P : Addr} {h : Heap} (T : Tab c P h) : ∃ ps, TriplesOk ps.toList ∧ h.get? P = some (tabObj ps) := by
  obtain ⟨ps, hok, htab⟩ := T
  obtain ⟨_, _, _, _, _, _, _, _, _, op, _, _, _, _, _, _, _, hop, hpd, htr, _⟩ := hok
  exact ⟨ps, htr, htab.2⟩
theorem tab_in {c P : Addr} {h₀ h : Heap} {ps : Array Value} (T : Tab c P h₀) (ht : TriplesOk ps.toList) (hk : ∀ b o, b ≠ P → h₀.get? b = some o → h.get? b = some o) (hP : h.get? P = some (tabObj ps)) : Tab c P h := by
  have hne := T.ne
  obtain ⟨ps0, ⟨o, vs, file, tf, flags, tg, inF, text, tt, op, a, r1, r2, r3, r4, r5, r6, b, r7, r8, r9⟩, ⟨⟨o', vs', a', r'⟩, t⟩⟩ := T
  exact ⟨ps, ⟨o, vs, file, tf, flags, tg, inF, text, tt, _, hk _ _ hne a, r1, r2, r3, r4, r5, r6, hP, rfl, ht, r9⟩, ⟨⟨o', vs', hk _ _ hne a', r'⟩, hP⟩⟩
theorem er_news {P L : Addr} {h₀ h : Heap} {led : List (Addr × Obj)} (N : News h₀ L h led) : News (er P h₀) L h led := fun q hq => by
  refine ⟨(N q hq).1, (N q hq).2.1, ?_⟩
  by_cases e : q.1 = P
  · rw [e]; exact er_self _ _
  · exact (er_other e).trans (N q hq).2.2
theorem news_off {c P L : Addr} {h₀ h : Heap} {led : List (Addr × Obj)} (T : Tab c P h₀) (N : News h₀ L h led) : ∀ q ∈ led, q.1 ≠ P := fun q hq e => by
  obtain ⟨ps, _, hP⟩ := tab_out T
  have := (N q hq).2.2
  rw [e, hP] at this; cases this
/-- the table goes onto the ledger -/
theorem tab_news {c P L : Addr} {h₀ h : Heap} {m : Str → Option Value} {led : List (Addr × Obj)} (T : Tab c P h₀) (F : Fr h₀ L h m) (N : News h₀ L h led) :
    ∃ ps, TriplesOk ps.toList ∧ Fr (er P h₀) L h m ∧ News (er P h₀) L h ((P, tabObj ps) :: led) := by
  obtain ⟨ps, ht, hP⟩ := tab_out T
  refine ⟨ps, ht, er_fr F, fun q hq => ?_⟩
  rcases List.mem_cons.mp hq with rfl | hq
  · exact ⟨F.keep _ _ hP, fun e => absurd (Heap.lt_size hP) (by rw [show P = L from e]; exact Nat.not_lt.mpr F.above), er_self _ _⟩
  · exact er_news N q hq
/-- behind a call of _platform -/
theorem plat_step {c P L : Addr} {h₀ h h' : Heap} {m : Str → Option Value} {led : List (Addr × Obj)} {ps : Array Value} (F : Fr (er P h₀) L h m) (N : News (er P h₀) L h ((P, tabObj ps) :: led)) (hoff : ∀ q ∈ led, q.1 ≠ P)
    (hk : ∀ b o, b ≠ P → h.get? b = some o → h'.get? b = some o) (T' : Tab c P h') : ∃ ps', TriplesOk ps'.toList ∧ Fr (er P h₀) L h' m ∧ News (er P h₀) L h' ((P, tabObj ps') :: led) := by
  obtain ⟨ps', ht, hP⟩ := tab_out T'
  have hPL := (N _ (.head _)).2.1
  refine ⟨ps', ht, ⟨F.ns.at' fun o e => hk _ o (Ne.symm hPL) e, fun b o e => hk b o (er_keep e).1 (F.keep b o e), F.above⟩, fun q hq => ?_⟩
  rcases List.mem_cons.mp hq with rfl | hq
  · exact ⟨hP, hPL, er_self _ _⟩
  · exact ⟨hk _ _ (hoff q hq) (N q (.tail _ hq)).1, (N q (.tail _ hq)).2⟩
theorem er_bmod {c P bm : Addr} {h₀ : Heap} {g : Addr} {mg : Str → Option Value} {ob : Obj} (T : Tab c P h₀) (B : BMod h₀ g mg bm ob) : BMod (er P h₀) g mg bm ob := by
  obtain ⟨ps, _, ht⟩ := T
  exact B.extBut ht fun b o hb e => (er_other hb).trans e
theorem fr_off {P L : Addr} {h₀ h : Heap} {m : Str → Option Value} (F : Fr (er P h₀) L h m) : ∀ b o, b ≠ P → h₀.get? b = some o → h.get? b = some o := fun b o hb e => F.keep b o ((er_other hb).trans e)
/-- the page with its two signs changed -/
theorem two_signs {a b : Nat} (ha : a ≠ 33) (l : List Nat) : (l.map (fun k => if k = 42 then a else k)).map (fun k => if k = 33 then b else k) = l.map (fm a b) := by
  rw [List.map_map]
  refine List.map_congr_left fun d _ => ?_
  simp only [Function.comp]
  unfold fm
  by_cases h : d = 42
  · rw [if_pos h, if_pos h, if_neg ha]
  · rw [if_neg h, if_neg h]
theorem fm_page {page : Str} {cuts : List Int} (hg : GoodPage page cuts) {a b : Nat} (ha : a ∈ menuL) (hb : b ∈ menuL) : ∀ c ∈ page.cps.toList.map (fm a b), 33 ≤ c ∧ c < 127 := by
  intro c hc
  obtain ⟨d, hd, rfl⟩ := List.mem_map.mp hc
  exact fm_range ⟨(menu_facts a ha).2.2.1, (menu_facts a ha).2.2.2.1⟩ ⟨(menu_facts b hb).2.2.1, (menu_facts b hb).2.2.2.1⟩ (List.mem_append_left _ (page_mem hg d hd))
theorem wrote_size (page : Str) (a b : Nat) : (wrote page a b).size = page.length := by
  unfold wrote
  rw [List.size_toArray, List.length_map, List.length_map, len_list]
theorem wrote_at {page : Str} {cuts : List Int} (hg : GoodPage page cuts) {a b : Nat} (ha : a ∈ menuL) (hb : b ∈ menuL) {i : Nat} {n : UInt8} (h : (wrote page a b)[i]? = some n) :
    ∃ c, (page.cps.toList.map (fm a b))[i]? = some c ∧ n.toNat = c ∧ c < 256 := by
  unfold wrote at h
  rw [List.getElem?_toArray, List.getElem?_map] at h
  cases e : (page.cps.toList.map (fm a b))[i]? with
  | none => rw [e] at h; cases h
  | some c =>
    rw [e] at h
    have hc := (fm_page hg ha hb c (List.mem_of_getElem? e)).2
    have hn : UInt8.ofNat c = n := Option.some.inj h
    exact ⟨c, rfl, by rw [← hn]; exact UInt8.toNat_ofNat_of_lt' (show c < 256 by omega), by omega⟩
/-- signs, one a text -/
theorem strs_ones : ∀ {l : List Nat} {rs : List (Option Value × List (Addr × Obj))}, rs.length = l.length →
    (∀ (i : Nat) (r : Option Value × List (Addr × Obj)), rs[i]? = some r → ∃ c, l[i]? = some c ∧ ∃ t, r.1 = some (.str ⟨#[c]⟩ t)) →
    StrsAre (rs.filterMap (·.1)) (l.map fun c => (⟨#[c]⟩ : Str))
  | [], [], _, _ => .nil
  | [], _ :: _, h, _ => nomatch h
  | _ :: _, [], h, _ => nomatch h
  | c :: l, r :: rs, hl, h => by
    have ih := strs_ones (l := l) (rs := rs) (by simpa using hl) (fun i r hr => by simpa using h (i + 1) r (by simpa using hr))
    obtain ⟨d, hd, t, ht⟩ := h 0 r rfl
    have : c = d := Option.some.inj hd
    subst this
    rw [List.filterMap_cons, ht, List.map_cons]
    exact .cons _ _ ih
theorem ones_join (l : List Nat) : (Str.join (Str.ofString "") (l.map fun c => (⟨#[c]⟩ : Str))).cps.toList = l := by
  rw [join_flat, List.flatMap_map]
  induction l with
  | nil => rfl
  | cons c r ih => rw [List.flatMap_cons, ih]; rfl
theorem strs_cut {x : Str} : ∀ {qs : List (Int × Int)} {rs : List (Option Value × List (Addr × Obj))}, rs.length = qs.length →
    (∀ (i : Nat) (r : Option Value × List (Addr × Obj)), rs[i]? = some r → ∃ q, qs[i]? = some q ∧ ∃ t, r.1 = some (.str (Txt.slice x (some q.1) (some q.2)) t)) →
    StrsAre (rs.filterMap (·.1)) (qs.map fun q => Txt.slice x (some q.1) (some q.2))
  | [], [], _, _ => .nil
  | [], _ :: _, h, _ => nomatch h
  | _ :: _, [], h, _ => nomatch h
  | q :: qs, r :: rs, hl, h => by
    have ih := strs_cut (x := x) (qs := qs) (rs := rs) (by simpa using hl) (fun i r hr => by simpa using h (i + 1) r (by simpa using hr))
    obtain ⟨d, hd, t, ht⟩ := h 0 r rfl
    have : q = d := Option.some.inj hd
    subst this
    rw [List.filterMap_cons, ht, List.map_cons]
    exact .cons _ _ ih
theorem told_texts {page : Str} {cuts : List Int} (hg : GoodPage page cuts) {sh : Str} {x : List Nat} (hx : sh.cps.toList = x) (hl : sh.length = page.length) :
    ((bnd cuts page.length).map (fun q => Txt.slice sh (some q.1) (some q.2))).map (fun t => t.cps.toList) = (bnd cuts page.length).map (piece x) := by
  rw [List.map_map]
  refine List.map_congr_left fun q hq => ?_
  have h := bnd_mem hg q hq
  have := slice_piece (x := sh) (f := q.1) (b := q.2) h.1 (by rw [hl]; exact h.2.1) h.2.2.1 (by rw [hl]; exact h.2.2.2)
  simp only [Function.comp]
  rw [this, hx]
/-- what platform makes of the text told at stage j -/
def PJ (a b : Nat) (J : List Nat) (j : Nat) (x : List Nat) : Prop := sqz false (replL unk [] (x.map mface)) = nameL a b (stage J (rrun J J.length).rounds (j + 1))
theorem pj_zero {a b : Nat} (ha : a ∈ menuL) (hb : b ∈ menuL) {J : List Nat} (hJ : ∀ d ∈ J, d ∈ ixL ++ [45]) : PJ a b J 0 (J.map (fm a b)) := by
  unfold PJ
  rw [name_first ha hb hJ, stage_next, stage_zero]
theorem pj_succ {a b : Nat} (ha : a ∈ menuL) (hb : b ∈ menuL) {J : List Nat} (hJ : ∀ d ∈ J, d ∈ ixL ++ [45]) (j : Nat) : PJ a b J (j + 1) (nameL a b (stage J (rrun J J.length).rounds (j + 1))) := by
  unfold PJ
  rw [name_next ha hb (fun d hd => hJ d (stage_mem d hd)), stage_next J (j + 1)]
theorem strs_at : ∀ {vs : List Value} {ns : List Str}, StrsAre vs ns → ∀ {i : Nat} {v : Value}, vs.toArray[i]? = some v → ∃ x t, ns[i]? = some x ∧ v = .str x t
  | _, _, .nil, i, v, h => by simp at h
  | _, _, .cons y t r, 0, v, h => by
    have e : Value.str y t = v := by simpa using h
    exact ⟨y, t, rfl, e.symm⟩
  | _, _, .cons y t r, i + 1, v, h => by
    obtain ⟨x, u, h1, h2⟩ := strs_at r (i := i) (v := v) (by simpa using h)
    exact ⟨x, u, by simpa using h1, h2⟩
/-- the told pieces, as platform joins them -/
theorem told_start {page : Str} {cuts : List Int} (hg : GoodPage page cuts) {sh : Str} {a b : Nat} (ha : a ∈ menuL) (hb : b ∈ menuL) (hsh : sh.cps.toList = page.cps.toList.map (fm a b)) (hl : sh.length = page.length) :
    (∀ t ∈ (bnd cuts page.length).map (fun q => Txt.slice sh (some q.1) (some q.2)), t.length ≤ 300) ∧
    (∀ t ∈ (bnd cuts page.length).map (fun q => Txt.slice sh (some q.1) (some q.2)), ∀ c ∈ t.cps.toList, 33 ≤ c ∧ c < 127) ∧
    (Str.join (Str.ofString "-") (nonE ((bnd cuts page.length).map (fun q => Txt.slice sh (some q.1) (some q.2))))).cps.toList = (joinedL page.cps.toList (bnd cuts page.length)).map (fm a b) := by
  refine ⟨fun t ht => ?_, fun t ht c hc => ?_, ?_⟩
  · obtain ⟨q, _, rfl⟩ := List.mem_map.mp ht
    have := slice_len_le sh (some q.1) (some q.2)
    have := hg.len
    omega
  · obtain ⟨q, _, rfl⟩ := List.mem_map.mp ht
    have h1 := mem_slice hc
    rw [hsh] at h1
    exact fm_page hg ha hb c h1
  · rw [told_join (told_texts hg hsh hl), joined_map (by unfold fm; rw [if_neg (by decide), if_neg (by decide)])]
/-- one name, told again -/
theorem told_one {r : Str} {a b : Nat} {S : List Nat} (ha : a ∈ menuL) (hb : b ∈ menuL) (hS : ∀ d ∈ S, d ∈ ixL ++ [45]) (hSl : S.length ≤ 300) (hr : r.cps.toList = nameL a b S) :
    (∀ t ∈ [r], t.length ≤ 300) ∧ (∀ t ∈ [r], ∀ c ∈ t.cps.toList, 33 ≤ c ∧ c < 127) ∧ (Str.join (Str.ofString "-") (nonE [r])).cps.toList = nameL a b S ∧ (Str.join (Str.ofString "-") (nonE [r])).length ≤ 400 := by
  have hl : r.length ≤ 300 := by
    have := name_len a b S
    rw [len_list, hr]; omega
  refine ⟨fun t ht => by rw [List.mem_singleton.mp ht]; exact hl, fun t ht c hc => ?_, by rw [one_join, hr], by rw [len_list, one_join, ← len_list]; omega⟩
  rw [List.mem_singleton.mp ht, hr] at hc
  exact name_range ha hb hS c hc
end Part_fcy

section Part_law
local macro_rules | `(tactic| k_all) => `(tactic| first | assumption | exact all_nil | (refine all_cons (by (refine neN ?_; (try dsimp only); omega)) ?_; k_all))
section
variable {M : Model} {A : Around} {E : Value → Shared → Prop} {s : Shared} {K : Frag} {h₀ : Heap} {L a : Addr} {m mg mb : Str → Option Value} {cn : Str} {cs : Scope} {ccd : Value} {p : Program} {loose : List Str}
  {x : Str} {pos : Pos} {v : Value} {Q : Value → Shared → Prop} {news : List (Addr × Obj)} {c : Addr} {o : Obj}
/-- the names of a def that has cells -/
theorem nmC_L (hk : cs.kind = .function) (hx : (envOfC cn cs L a ccd).kindOf x = some .local) (hd : (x == ("__debug__" : Str)) = false) (F : Fr h₀ L s.heap m) (hv : m x = some v) (h : Q v s) :
    wpAny M A (eval (.Name x pos) (envOfC cn cs L a ccd)) Q E s := nameX_L F hv h hk hx hd
theorem nmC_C (hk : cs.kind = .function) (hx : (envOfC cn cs L a ccd).kindOf x = some .cell) (hb : (x == ("__debug__" : Str)) = false) (N : News h₀ L s.heap news) (hc : (envOfC cn cs L a ccd).cells.lookup x = some c) (hm : (c, o) ∈ news) (hd : o.data = .cell (some v)) (h : Q v s) :
    wpAny M A (eval (.Name x pos) (envOfC cn cs L a ccd)) Q E s := nameX_C N hc hm hd h hk hx hb
theorem nmC_K (hk : cs.kind = .function) (hx : (envOfC cn cs L a ccd).kindOf x = some .globalImplicit) (hd : (x == ("__debug__" : Str)) = false) (F : Fr h₀ L s.heap m) (X : K.In h₀) (T : TopRead p loose mg mb h₀) (e : nsIn K mainGlobals x = some (some v)) (h : Q v s) :
    wpAny M A (eval (.Name x pos) (envOfC cn cs L a ccd)) Q E s := nameX_K F X T e h hk hx hd
theorem nmC_B (hk : cs.kind = .function) (hx : (envOfC cn cs L a ccd).kindOf x = some .globalImplicit) (hd : (x == ("__debug__" : Str)) = false) (F : Fr h₀ L s.heap m) (X : K.In h₀) (T : TopRead p loose mg mb h₀) (e : nsIn K mainGlobals x = some none) (hv : bootBuiltins x = some v) (hn : x ≠ "__name__") (h : Q v s) :
    wpAny M A (eval (.Name x pos) (envOfC cn cs L a ccd)) Q E s := nameX_B F X T e hv hn h hk hx hd
end
theorem news_none {h₀ h_b h' : Heap} {L D : Addr} {m : Str → Option Value} {o : Obj} {news : List (Addr × Obj)} (F : Fr h₀ L h_b m) (hD : h_b.get? D = none) (ho : h'.get? D = some o) (N : News h₀ L h' news) : News h₀ L h' ((D, o) :: news) := by
  intro q hq
  rcases List.mem_cons.mp hq with rfl | hq
  · refine ⟨ho, fun e => ?_, ?_⟩
    · have e' : D = L := e
      obtain ⟨o', ho'⟩ : ∃ o', h_b.get? L = some o' := by
        cases e2 : h_b.get? L with
        | none => obtain ⟨_, _, _, h2, _⟩ := F.ns; rw [h2] at e2; cases e2
        | some o' => exact ⟨o', rfl⟩
      rw [e', ho'] at hD; cases hD
    cases e : h₀.get? D with
    | none => rfl
    | some o' => rw [F.keep _ _ e] at hD; cases hD
  · exact N q hq
theorem none_ne {h₀ h : Heap} {L a : Addr} {news : List (Addr × Obj)} (N : News h₀ L h news) (ha : h.get? a = none) {c : Addr} {o : Obj} (hc : (c, o) ∈ news) : @Ne Nat a c := fun e => by
  have h1 := (N _ hc).1
  have e' : a = c := e
  rw [← e', ha] at h1
  cases h1
section
variable {prog : Program} {w : World} {A : Around} {s : Shared} {K : Frag} {R : Result → Shared → Prop}
  {name : Str} {params : Arguments} {body : List Stmt} {scope : Scope} {doc pm cdv oc : Value} {od : Option Addr} {osl : Array (Option Value)} {f : Addr} {args : List Value} {binds : List (Str × Value)}
/-- a call of one of the text's own defs that has cells -/
theorem callOwnC (X : K.In s.heap) (hlim : s.heap.NoLimit)
    (ho : K.lookup f = some ⟨oc, od, .func (docDef name params body scope pm cdv doc), osl⟩) (hcd : codeIn K cdv name = true) (hroom : A.depth < recursionLimit)
    (hbind : bindArgs (docDef name params body scope pm cdv doc) ⟨args, []⟩ = pure binds) (hkind : KindsOk scope (s.heap.objs.size + 1) binds)
    (hnd : ((cellsFrom 0 scope.names []).map (·.1)).Nodup)
    (h : ∀ h₁ tk cells, Fr s.heap s.heap.objs.size h₁ (bindL (envOfC name scope s.heap.objs.size f cdv).kindOf binds fun _ => none) → News s.heap s.heap.objs.size h₁ cells →
      CellsAre (bindC (envOfC name scope s.heap.objs.size f cdv).kindOf binds fun _ => none) (cellsFrom (s.heap.objs.size + 1) scope.names []) cells →
      wpAny (model prog w) (A.deeper (envOfC name scope s.heap.objs.size f cdv)) (execs body (envOfC name scope s.heap.objs.size f cdv))
        (fun fl s' => R (.ok (.ret (match fl with | .ret v => v | _ => .none))) s') NoE { s with heap := h₁, toks := tk })
    (hco : scope.isCoroutine = false) (hgen : scope.isGenerator = false) (hk : scope.kind = .function) :
    codeAny (model prog w) A (.call (.ref f) ⟨args, []⟩) R s :=
  call_cellsN_ret hroom (X _ _ ho) rfl hlim (codeRec_of X hcd) hbind (kinds_of hkind) hnd h hco hgen hk
end
section
variable {w : World} {s : Shared} {R : Result → Shared → Prop} {p : Program} {loose : List Str} {mean : ExcName → Option Value} {mg mb : Str → Option Value} {bm : Addr} {ob : Obj}
set_option maxHeartbeats 8000000 in
theorem law_call {l : Addr} {vs : List Value} {ns : List Int} {P : Addr} (X : (hk.heap_1 w.params).In s.heap) (T : Top p loose mean mg mb s.heap) (TB : Tab 27 P s.heap) (BM : BMod s.heap mainGlobals mg bm ob)
  (G : AllBare s.gens) (hl : s.heap.IsList l vs.toArray) (hi : IntsAre vs ns) (hlen : ns.length ≤ 63)
  (hR : ∀ (h' : Heap) gens' tk, (∀ b o, b ≠ P → s.heap.get? b = some o → h'.get? b = some o) → Tab 27 P h' → AllBare gens' → R (.ok (.ret (.bool true))) { s with heap := h', gens := gens', toks := tk }) :
  codeAny (model lw.row.prog w) callerA (.call (.ref 108) ⟨[.ref l], []⟩) R s := by
  revert X
  k_fill
  intro X
  w_strict (
   w_top off
   refine' callOwnC (binds := [(Str.ofString "script", .ref l)]) ?k1 ?k2 ?k3 ?k4 ?k5 ?k6 ?k7 ?k8 ?_ ?c1 ?c2 ?c3
   (case k1 => exact X)
   (case k2 => exact T.nolimit)
   (case k3 => k_is)
   (case k4 => k_is)
   (case k5 => decide)
   (case k6 => exact rfl)
   (case k7 => kinds_ok)
   (case k8 => decide)
   (case c1 => exact rfl)
   (case c2 => exact rfl)
   (case c3 => exact rfl)
   intro h0 tk0 cells F0 N0 X0
   obtain ⟨o1, o2, o3, o4, o5, he, dc1, dc2, dc3, dc4, dc5⟩ := kc_five X0
   subst he
   clear X0
   replace dc1 := Eq.trans dc1 (congrArg Data.cell (show _ = (none : Option Value) by with_unfolding_all rfl))
   replace dc2 := Eq.trans dc2 (congrArg Data.cell (show _ = (none : Option Value) by with_unfolding_all rfl))
   replace dc3 := Eq.trans dc3 (congrArg Data.cell (show _ = (none : Option Value) by with_unfolding_all rfl))
   replace dc4 := Eq.trans dc4 (congrArg Data.cell (show _ = (none : Option Value) by with_unfolding_all rfl))
   replace dc5 := Eq.trans dc5 (congrArg Data.cell (show _ = (none : Option Value) by with_unfolding_all rfl))
   (try dsimp only); (try k_fold)
   --CUT
   repeat' (first | (k_unfold; (try dsimp only)) | ((with_reducible show wpAny _ _ (execs (_ :: _) _) _ _ _); refine execs_hide ?_; intro Qk9 kH9; (try dsimp only)) | ((with_reducible rename Hid _ _ _ => kH9); first | (refine hid_next kH9 ?_; clear kH9; (try clear Qk9)) | (refine hid_other kH9 (by nofun) ?_; clear kH9; (try clear Qk9)); (try dsimp only)) | ((with_reducible show wpAny _ _ (eval (Expr.Name _ _) (envOfC _ _ _ _ _)) _ _ _); k_dflt (first | refine nmC_L (by exact rfl) (by exact rfl) (by exact rfl) (by assumption) (by exact rfl) ?_ | refine nmC_C (by exact rfl) (by exact rfl) (by exact rfl) (by assumption) (by exact rfl) (by k_mem) (by assumption) ?_ | refine nmC_K (by exact rfl) (by exact rfl) (by exact rfl) (by assumption) (by assumption) (by k_asm) (by k_is) ?_ | refine nmC_B (by exact rfl) (by exact rfl) (by exact rfl) (by assumption) (by assumption) (by k_asm) (by k_is) (by boot_by_name) (by decide) ?_)) | ((with_reducible show wpAny _ _ (eval (Expr.Name _ _) (compEnvC _ _ _ _)) _ _ _); k_dflt (refine cc_cell (by exact rfl) (Fr.keep (by assumption) _ _ (by assumption)) (by assumption) ?_ (by exact rfl) (by exact rfl) (by exact rfl))) | ((with_reducible show wpAny _ _ (eval (Expr.Name _ _) (compEnvC _ _ _ _)) _ _ _); k_dflt (refine cc_blt (by assumption) (by assumption) (by assumption) (by k_is) (by boot_by_name) (by decide) ?_ (by exact rfl) (by exact rfl) (by exact rfl) (by exact rfl) (by exact rfl))) | ((with_reducible show wpAny _ _ (call (Value.builtin "chr") [Value.int _ _]) _ _ _); k_dflt (refine chr_one (by assumption) ?_)) | ((with_reducible show wpAny _ _ (call (Value.builtin "ord") [Value.str _ _]) _ _ _); k_dflt (refine' ord_one ?_)) | ((with_reducible show wpAny _ _ (subscriptTail _ _ (Value.ref _) (Value.int _ _)) _ _ _); k_dflt (refine heap_item (Heap.IsList.at (by assumption) (fun o e => Fr.keep (by assumption) _ _ e)) (by omega) (by omega) (by assumption) ?_ (by exact rfl))) | ((with_reducible show wpAny _ _ (binaryOp Operator.Add (Value.str _ _) (Value.str _ _)) _ _ _); k_dflt (refine SB.add ?_ (add_fits (by walk_at "m_len") (by walk_at "m_len") (by decide +kernel)); intro _ _; (try dsimp only))) | ((with_reducible show wpAny _ _ (call (Value.builtin "len") [Value.str _ _]) _ _ _); k_dflt (refine len_str_ok (Nat.le_trans (by walk_at "m_len") (by decide +kernel)) ?_; (try dsimp only))) | ((with_reducible show wpAny _ _ (call (Value.builtin "list.append") [Value.ref _, _]) _ _ _); k_dflt (refine append_K (by k_asm) (by k_asm) (by k_upd) ?_ (by refine size_ok ?_; (try simp only [List.size_toArray]); omega); k_whole); intro _ _ _; (try k_sweep)) | ((with_reducible show wpAny _ _ (storeName (compEnvC _ _ _ _) _ _) _ _ _); k_dflt (refine cc_store (by assumption) (by assumption) (by exact rfl) (by exact rfl) ?_); intro _ _ _; (try k_sweep)) | ((with_reducible show wpAny _ _ (eval (Expr.Name _ _) (compEnvC _ _ _ _)) _ _ _); k_dflt (refine cc_load (by assumption) (by exact rfl) ?_ (by exact rfl) (by exact rfl) (by exact rfl))) | ((with_reducible show wpAny _ _ _ _ _ _); (fail_if_success (with_reducible first | show wpAny _ _ (exec (Stmt.For _ _ _ _ _) _) _ _ _ | show wpAny _ _ (exec (Stmt.While _ _ _ _) _) _ _ _ | show wpAny _ _ (pyIter _) _ _ _ | show wpAny _ _ (call (Value.builtin "list.pop") _ _) _ _ _ | show wpAny _ _ (call (Value.builtin "str.join") _ _) _ _ _ | show wpAny _ _ (call (Value.builtin "max") _ _) _ _ _ | show wpAny _ _ (setItem _ _ _) _ _ _ | show wpAny _ _ (call (Value.builtin "str.replace") _ _) _ _ _ | show wpAny _ _ (call (Value.builtin "str.split") _ _) _ _ _ | show wpAny _ _ (call (Value.ref _) _ _) _ _ _ | show wpAny _ _ (eval (Expr.ListComp _ _ _ _) _) _ _ _ | show wpAny _ _ (exec (Stmt.Assign _ (Expr.ListComp _ _ _ _) _) _) _ _ _)); first | walk1 | (dsimp only; walk1)) | ((with_reducible show Frag.In _ _ ∧ _); (refine ⟨by k_in, ?_⟩); (try dsimp only [List.nil_append, List.cons_append])) | ((with_reducible show (if _ then _ else _)); walk1))
   rename_i D1 ws1 h1 F1 N1 hI1 hC1 hL1 l1
   refine wpAny_call (drawn_call (X.keeps F1.keep) (T.keeps F1.keep) ?_ ?_ ?_ ⟨_, (N1 _ (.head _)).1, rfl, _, rfl⟩ hI1 ?_ ?_)
   · show callerA.depth + 1 < 450; decide +kernel
   · show callerA.units + 3 + 100 < cLine; decide +kernel
   · rfl
   · rw [hC1]; exact Nat.min_le_left _ _
   intro h2 tk2 a2 page tp ac cvs ck cuts hgp hcv st2 ha2 hac2 hga hgac
   have na1 := none_ne N1 ha2 (.tail _ (.head _))
   have na2 := none_ne N1 ha2 (.tail _ (.tail _ (.head _)))
   have na3 := none_ne N1 ha2 (.tail _ (.tail _ (.tail _ (.head _))))
   have na4 := none_ne N1 ha2 (.tail _ (.tail _ (.tail _ (.tail _ (.head _)))))
   have na5 := none_ne N1 ha2 (.tail _ (.tail _ (.tail _ (.tail _ (.tail _ (.head _))))))
   have nc1 := none_ne N1 hac2 (.tail _ (.head _))
   have nc2 := none_ne N1 hac2 (.tail _ (.tail _ (.head _)))
   have nc3 := none_ne N1 hac2 (.tail _ (.tail _ (.tail _ (.head _))))
   have nc4 := none_ne N1 hac2 (.tail _ (.tail _ (.tail _ (.tail _ (.head _)))))
   have nc5 := none_ne N1 hac2 (.tail _ (.tail _ (.tail _ (.tail _ (.tail _ (.head _))))))
   replace N1 := news_stays N1 st2
   replace N1 := fun q hq => N1 q (.tail _ hq)
   change News _ _ _ [_, _, _, _, _] at N1
   replace N1 := news_none F1 hac2 hgac N1
   replace N1 := news_none F1 ha2 hga N1
   replace F1 := fr_stays F1 st2
   clear l1 hC1 hL1 hac2 ha2
   (try dsimp only); (try k_fold)
   repeat' (first | (k_unfold; (try dsimp only)) | ((with_reducible show wpAny _ _ (execs (_ :: _) _) _ _ _); refine execs_hide ?_; intro Qk9 kH9; (try dsimp only)) | ((with_reducible rename Hid _ _ _ => kH9); first | (refine hid_next kH9 ?_; clear kH9; (try clear Qk9)) | (refine hid_other kH9 (by nofun) ?_; clear kH9; (try clear Qk9)); (try dsimp only)) | ((with_reducible show wpAny _ _ (eval (Expr.Name _ _) (envOfC _ _ _ _ _)) _ _ _); k_dflt (first | refine nmC_L (by exact rfl) (by exact rfl) (by exact rfl) (by assumption) (by exact rfl) ?_ | refine nmC_C (by exact rfl) (by exact rfl) (by exact rfl) (by assumption) (by exact rfl) (by k_mem) (by assumption) ?_ | refine nmC_K (by exact rfl) (by exact rfl) (by exact rfl) (by assumption) (by assumption) (by k_asm) (by k_is) ?_ | refine nmC_B (by exact rfl) (by exact rfl) (by exact rfl) (by assumption) (by assumption) (by k_asm) (by k_is) (by boot_by_name) (by decide) ?_)) | ((with_reducible show wpAny _ _ (eval (Expr.Name _ _) (compEnvC _ _ _ _)) _ _ _); k_dflt (refine cc_cell (by exact rfl) (Fr.keep (by assumption) _ _ (by assumption)) (by assumption) ?_ (by exact rfl) (by exact rfl) (by exact rfl))) | ((with_reducible show wpAny _ _ (eval (Expr.Name _ _) (compEnvC _ _ _ _)) _ _ _); k_dflt (refine cc_blt (by assumption) (by assumption) (by assumption) (by k_is) (by boot_by_name) (by decide) ?_ (by exact rfl) (by exact rfl) (by exact rfl) (by exact rfl) (by exact rfl))) | ((with_reducible show wpAny _ _ (call (Value.builtin "chr") [Value.int _ _]) _ _ _); k_dflt (refine chr_one (by assumption) ?_)) | ((with_reducible show wpAny _ _ (call (Value.builtin "ord") [Value.str _ _]) _ _ _); k_dflt (refine' ord_one ?_)) | ((with_reducible show wpAny _ _ (subscriptTail _ _ (Value.ref _) (Value.int _ _)) _ _ _); k_dflt (refine heap_item (Heap.IsList.at (by assumption) (fun o e => Fr.keep (by assumption) _ _ e)) (by omega) (by omega) (by assumption) ?_ (by exact rfl))) | ((with_reducible show wpAny _ _ (binaryOp Operator.Add (Value.str _ _) (Value.str _ _)) _ _ _); k_dflt (refine SB.add ?_ (add_fits (by walk_at "m_len") (by walk_at "m_len") (by decide +kernel)); intro _ _; (try dsimp only))) | ((with_reducible show wpAny _ _ (call (Value.builtin "len") [Value.str _ _]) _ _ _); k_dflt (refine len_str_ok (Nat.le_trans (by walk_at "m_len") (by decide +kernel)) ?_; (try dsimp only))) | ((with_reducible show wpAny _ _ (call (Value.builtin "list.append") [Value.ref _, _]) _ _ _); k_dflt (refine append_K (by k_asm) (by k_asm) (by k_upd) ?_ (by refine size_ok ?_; (try simp only [List.size_toArray]); omega); k_whole); intro _ _ _; (try k_sweep)) | ((with_reducible show wpAny _ _ (storeName (compEnvC _ _ _ _) _ _) _ _ _); k_dflt (refine cc_store (by assumption) (by assumption) (by exact rfl) (by exact rfl) ?_); intro _ _ _; (try k_sweep)) | ((with_reducible show wpAny _ _ (eval (Expr.Name _ _) (compEnvC _ _ _ _)) _ _ _); k_dflt (refine cc_load (by assumption) (by exact rfl) ?_ (by exact rfl) (by exact rfl) (by exact rfl))) | ((with_reducible show wpAny _ _ _ _ _ _); (fail_if_success (with_reducible first | show wpAny _ _ (exec (Stmt.For _ _ _ _ _) _) _ _ _ | show wpAny _ _ (exec (Stmt.While _ _ _ _) _) _ _ _ | show wpAny _ _ (pyIter _) _ _ _ | show wpAny _ _ (call (Value.builtin "list.pop") _ _) _ _ _ | show wpAny _ _ (call (Value.builtin "str.join") _ _) _ _ _ | show wpAny _ _ (call (Value.builtin "max") _ _) _ _ _ | show wpAny _ _ (setItem _ _ _) _ _ _ | show wpAny _ _ (call (Value.builtin "str.replace") _ _) _ _ _ | show wpAny _ _ (call (Value.builtin "str.split") _ _) _ _ _ | show wpAny _ _ (call (Value.ref _) _ _) _ _ _ | show wpAny _ _ (eval (Expr.ListComp _ _ _ _) _) _ _ _ | show wpAny _ _ (exec (Stmt.Assign _ (Expr.ListComp _ _ _ _) _) _) _ _ _)); first | walk1 | (dsimp only; walk1)) | ((with_reducible show Frag.In _ _ ∧ _); (refine ⟨by k_in, ?_⟩); (try dsimp only [List.nil_append, List.cons_append])) | ((with_reducible show (if _ then _ else _)); walk1))
   (rename Fr _ _ _ _ => F3)
   (rename News _ _ _ _ => N3)
   refine wpAny_call (octets_call (X.keeps F3.keep) (T.keeps F3.keep) ?_ ?_ ?_ hgp ?_)
   · show callerA.depth + 1 < 450; decide +kernel
   · show callerA.units + 3 + 100 < cLine; decide +kernel
   · rfl
   intro h4 tk4 t4 st4
   replace F3 := fr_stays F3 st4
   replace N3 := news_stays N3 st4

   (try dsimp only); (try k_fold)
   repeat' (first | (k_unfold; (try dsimp only)) | ((with_reducible show wpAny _ _ (execs (_ :: _) _) _ _ _); refine execs_hide ?_; intro Qk9 kH9; (try dsimp only)) | ((with_reducible rename Hid _ _ _ => kH9); first | (refine hid_next kH9 ?_; clear kH9; (try clear Qk9)) | (refine hid_other kH9 (by nofun) ?_; clear kH9; (try clear Qk9)); (try dsimp only)) | ((with_reducible show wpAny _ _ (eval (Expr.Name _ _) (envOfC _ _ _ _ _)) _ _ _); k_dflt (first | refine nmC_L (by exact rfl) (by exact rfl) (by exact rfl) (by assumption) (by exact rfl) ?_ | refine nmC_C (by exact rfl) (by exact rfl) (by exact rfl) (by assumption) (by exact rfl) (by k_mem) (by assumption) ?_ | refine nmC_K (by exact rfl) (by exact rfl) (by exact rfl) (by assumption) (by assumption) (by k_asm) (by k_is) ?_ | refine nmC_B (by exact rfl) (by exact rfl) (by exact rfl) (by assumption) (by assumption) (by k_asm) (by k_is) (by boot_by_name) (by decide) ?_)) | ((with_reducible show wpAny _ _ (eval (Expr.Name _ _) (compEnvC _ _ _ _)) _ _ _); k_dflt (refine cc_cell (by exact rfl) (Fr.keep (by assumption) _ _ (by assumption)) (by assumption) ?_ (by exact rfl) (by exact rfl) (by exact rfl))) | ((with_reducible show wpAny _ _ (eval (Expr.Name _ _) (compEnvC _ _ _ _)) _ _ _); k_dflt (refine cc_blt (by assumption) (by assumption) (by assumption) (by k_is) (by boot_by_name) (by decide) ?_ (by exact rfl) (by exact rfl) (by exact rfl) (by exact rfl) (by exact rfl))) | ((with_reducible show wpAny _ _ (call (Value.builtin "chr") [Value.int _ _]) _ _ _); k_dflt (refine chr_one (by assumption) ?_)) | ((with_reducible show wpAny _ _ (call (Value.builtin "ord") [Value.str _ _]) _ _ _); k_dflt (refine' ord_one ?_)) | ((with_reducible show wpAny _ _ (subscriptTail _ _ (Value.ref _) (Value.int _ _)) _ _ _); k_dflt (refine heap_item (Heap.IsList.at (by assumption) (fun o e => Fr.keep (by assumption) _ _ e)) (by omega) (by omega) (by assumption) ?_ (by exact rfl))) | ((with_reducible show wpAny _ _ (binaryOp Operator.Add (Value.str _ _) (Value.str _ _)) _ _ _); k_dflt (refine SB.add ?_ (add_fits (by walk_at "m_len") (by walk_at "m_len") (by decide +kernel)); intro _ _; (try dsimp only))) | ((with_reducible show wpAny _ _ (call (Value.builtin "len") [Value.str _ _]) _ _ _); k_dflt (refine len_str_ok (Nat.le_trans (by walk_at "m_len") (by decide +kernel)) ?_; (try dsimp only))) | ((with_reducible show wpAny _ _ (call (Value.builtin "list.append") [Value.ref _, _]) _ _ _); k_dflt (refine append_K (by k_asm) (by k_asm) (by k_upd) ?_ (by refine size_ok ?_; (try simp only [List.size_toArray]); omega); k_whole); intro _ _ _; (try k_sweep)) | ((with_reducible show wpAny _ _ (storeName (compEnvC _ _ _ _) _ _) _ _ _); k_dflt (refine cc_store (by assumption) (by assumption) (by exact rfl) (by exact rfl) ?_); intro _ _ _; (try k_sweep)) | ((with_reducible show wpAny _ _ (eval (Expr.Name _ _) (compEnvC _ _ _ _)) _ _ _); k_dflt (refine cc_load (by assumption) (by exact rfl) ?_ (by exact rfl) (by exact rfl) (by exact rfl))) | ((with_reducible show wpAny _ _ _ _ _ _); (fail_if_success (with_reducible first | show wpAny _ _ (exec (Stmt.For _ _ _ _ _) _) _ _ _ | show wpAny _ _ (exec (Stmt.While _ _ _ _) _) _ _ _ | show wpAny _ _ (pyIter _) _ _ _ | show wpAny _ _ (call (Value.builtin "list.pop") _ _) _ _ _ | show wpAny _ _ (call (Value.builtin "str.join") _ _) _ _ _ | show wpAny _ _ (call (Value.builtin "max") _ _) _ _ _ | show wpAny _ _ (setItem _ _ _) _ _ _ | show wpAny _ _ (call (Value.builtin "str.replace") _ _) _ _ _ | show wpAny _ _ (call (Value.builtin "str.split") _ _) _ _ _ | show wpAny _ _ (call (Value.ref _) _ _) _ _ _ | show wpAny _ _ (eval (Expr.ListComp _ _ _ _) _) _ _ _ | show wpAny _ _ (exec (Stmt.Assign _ (Expr.ListComp _ _ _ _) _) _) _ _ _)); first | walk1 | (dsimp only; walk1)) | ((with_reducible show Frag.In _ _ ∧ _); (refine ⟨by k_in, ?_⟩); (try dsimp only [List.nil_append, List.cons_append])) | ((with_reducible show (if _ then _ else _)); walk1))
   (rename Fr _ _ _ _ => F5)
   (rename News _ _ _ _ => N5)
   --CUT
   generalize tk4 + 1 = tk at *
   refine noE_mono (comp_assign_U F5 (by exact rfl) (by exact rfl) (by decide) (by exact rfl) (by decide) (by exact rfl) (by exact rfl) ?_)
   repeat' (first | (k_unfold; (try dsimp only)) | ((with_reducible show wpAny _ _ (execs (_ :: _) _) _ _ _); refine execs_hide ?_; intro Qk9 kH9; (try dsimp only)) | ((with_reducible rename Hid _ _ _ => kH9); first | (refine hid_next kH9 ?_; clear kH9; (try clear Qk9)) | (refine hid_other kH9 (by nofun) ?_; clear kH9; (try clear Qk9)); (try dsimp only)) | ((with_reducible show wpAny _ _ (eval (Expr.Name _ _) (envOfC _ _ _ _ _)) _ _ _); k_dflt (first | refine nmC_L (by exact rfl) (by exact rfl) (by exact rfl) (by assumption) (by exact rfl) ?_ | refine nmC_C (by exact rfl) (by exact rfl) (by exact rfl) (by assumption) (by exact rfl) (by k_mem) (by assumption) ?_ | refine nmC_K (by exact rfl) (by exact rfl) (by exact rfl) (by assumption) (by assumption) (by k_asm) (by k_is) ?_ | refine nmC_B (by exact rfl) (by exact rfl) (by exact rfl) (by assumption) (by assumption) (by k_asm) (by k_is) (by boot_by_name) (by decide) ?_)) | ((with_reducible show wpAny _ _ (eval (Expr.Name _ _) (compEnvC _ _ _ _)) _ _ _); k_dflt (refine cc_cell (by exact rfl) (Fr.keep (by assumption) _ _ (by assumption)) (by assumption) ?_ (by exact rfl) (by exact rfl) (by exact rfl))) | ((with_reducible show wpAny _ _ (eval (Expr.Name _ _) (compEnvC _ _ _ _)) _ _ _); k_dflt (refine cc_blt (by assumption) (by assumption) (by assumption) (by k_is) (by boot_by_name) (by decide) ?_ (by exact rfl) (by exact rfl) (by exact rfl) (by exact rfl) (by exact rfl))) | ((with_reducible show wpAny _ _ (call (Value.builtin "chr") [Value.int _ _]) _ _ _); k_dflt (refine chr_one (by assumption) ?_)) | ((with_reducible show wpAny _ _ (call (Value.builtin "ord") [Value.str _ _]) _ _ _); k_dflt (refine' ord_one ?_)) | ((with_reducible show wpAny _ _ (subscriptTail _ _ (Value.ref _) (Value.int _ _)) _ _ _); k_dflt (refine heap_item (Heap.IsList.at (by assumption) (fun o e => Fr.keep (by assumption) _ _ e)) (by omega) (by omega) (by assumption) ?_ (by exact rfl))) | ((with_reducible show wpAny _ _ (binaryOp Operator.Add (Value.str _ _) (Value.str _ _)) _ _ _); k_dflt (refine SB.add ?_ (add_fits (by walk_at "m_len") (by walk_at "m_len") (by decide +kernel)); intro _ _; (try dsimp only))) | ((with_reducible show wpAny _ _ (call (Value.builtin "len") [Value.str _ _]) _ _ _); k_dflt (refine len_str_ok (Nat.le_trans (by walk_at "m_len") (by decide +kernel)) ?_; (try dsimp only))) | ((with_reducible show wpAny _ _ (call (Value.builtin "list.append") [Value.ref _, _]) _ _ _); k_dflt (refine append_K (by k_asm) (by k_asm) (by k_upd) ?_ (by refine size_ok ?_; (try simp only [List.size_toArray]); omega); k_whole); intro _ _ _; (try k_sweep)) | ((with_reducible show wpAny _ _ (storeName (compEnvC _ _ _ _) _ _) _ _ _); k_dflt (refine cc_store (by assumption) (by assumption) (by exact rfl) (by exact rfl) ?_); intro _ _ _; (try k_sweep)) | ((with_reducible show wpAny _ _ (eval (Expr.Name _ _) (compEnvC _ _ _ _)) _ _ _); k_dflt (refine cc_load (by assumption) (by exact rfl) ?_ (by exact rfl) (by exact rfl) (by exact rfl))) | ((with_reducible show wpAny _ _ _ _ _ _); (fail_if_success (with_reducible first | show wpAny _ _ (exec (Stmt.For _ _ _ _ _) _) _ _ _ | show wpAny _ _ (exec (Stmt.While _ _ _ _) _) _ _ _ | show wpAny _ _ (pyIter _) _ _ _ | show wpAny _ _ (call (Value.builtin "list.pop") _ _) _ _ _ | show wpAny _ _ (call (Value.builtin "str.join") _ _) _ _ _ | show wpAny _ _ (call (Value.builtin "max") _ _) _ _ _ | show wpAny _ _ (setItem _ _ _) _ _ _ | show wpAny _ _ (call (Value.builtin "str.replace") _ _) _ _ _ | show wpAny _ _ (call (Value.builtin "str.split") _ _) _ _ _ | show wpAny _ _ (call (Value.ref _) _ _) _ _ _ | show wpAny _ _ (eval (Expr.ListComp _ _ _ _) _) _ _ _ | show wpAny _ _ (exec (Stmt.Assign _ (Expr.ListComp _ _ _ _) _) _) _ _ _)); first | walk1 | (dsimp only; walk1)) | ((with_reducible show Frag.In _ _ ∧ _); (refine ⟨by k_in, ?_⟩); (try dsimp only [List.nil_append, List.cons_append])) | ((with_reducible show (if _ then _ else _)); walk1))
   (rename Fr _ _ _ _ => F6)
   (rename News _ _ _ _ => N6)
   refine add_lists (vs := [_]) (ws := cvs) F6 N6 ⟨_, (N6 _ (.head _)).1, rfl, _, rfl⟩ ⟨_, (N6 (ac, _) (by k_mem)).1, rfl, _, rfl⟩ ?_ (hsz := ?_)
   rotate_left
   · have := hgp.cl; have h8 := hcv.length; rw [sizeLine_eq, List.length_singleton]; omega
   intro h7 F7 N7
   have hpl := hgp.len
   repeat' (first | (k_unfold; (try dsimp only)) | ((with_reducible show wpAny _ _ (execs (_ :: _) _) _ _ _); refine execs_hide ?_; intro Qk9 kH9; (try dsimp only)) | ((with_reducible rename Hid _ _ _ => kH9); first | (refine hid_next kH9 ?_; clear kH9; (try clear Qk9)) | (refine hid_other kH9 (by nofun) ?_; clear kH9; (try clear Qk9)); (try dsimp only)) | ((with_reducible show wpAny _ _ (eval (Expr.Name _ _) (envOfC _ _ _ _ _)) _ _ _); k_dflt (first | refine nmC_L (by exact rfl) (by exact rfl) (by exact rfl) (by assumption) (by exact rfl) ?_ | refine nmC_C (by exact rfl) (by exact rfl) (by exact rfl) (by assumption) (by exact rfl) (by k_mem) (by assumption) ?_ | refine nmC_K (by exact rfl) (by exact rfl) (by exact rfl) (by assumption) (by assumption) (by k_asm) (by k_is) ?_ | refine nmC_B (by exact rfl) (by exact rfl) (by exact rfl) (by assumption) (by assumption) (by k_asm) (by k_is) (by boot_by_name) (by decide) ?_)) | ((with_reducible show wpAny _ _ (eval (Expr.Name _ _) (compEnvC _ _ _ _)) _ _ _); k_dflt (refine cc_cell (by exact rfl) (Fr.keep (by assumption) _ _ (by assumption)) (by assumption) ?_ (by exact rfl) (by exact rfl) (by exact rfl))) | ((with_reducible show wpAny _ _ (eval (Expr.Name _ _) (compEnvC _ _ _ _)) _ _ _); k_dflt (refine cc_blt (by assumption) (by assumption) (by assumption) (by k_is) (by boot_by_name) (by decide) ?_ (by exact rfl) (by exact rfl) (by exact rfl) (by exact rfl) (by exact rfl))) | ((with_reducible show wpAny _ _ (call (Value.builtin "chr") [Value.int _ _]) _ _ _); k_dflt (refine chr_one (by assumption) ?_)) | ((with_reducible show wpAny _ _ (call (Value.builtin "ord") [Value.str _ _]) _ _ _); k_dflt (refine' ord_one ?_)) | ((with_reducible show wpAny _ _ (subscriptTail _ _ (Value.ref _) (Value.int _ _)) _ _ _); k_dflt (refine heap_item (Heap.IsList.at (by assumption) (fun o e => Fr.keep (by assumption) _ _ e)) (by omega) (by omega) (by assumption) ?_ (by exact rfl))) | ((with_reducible show wpAny _ _ (binaryOp Operator.Add (Value.str _ _) (Value.str _ _)) _ _ _); k_dflt (refine SB.add ?_ (add_fits (by walk_at "m_len") (by walk_at "m_len") (by decide +kernel)); intro _ _; (try dsimp only))) | ((with_reducible show wpAny _ _ (call (Value.builtin "len") [Value.str _ _]) _ _ _); k_dflt (refine len_str_ok (Nat.le_trans (by walk_at "m_len") (by decide +kernel)) ?_; (try dsimp only))) | ((with_reducible show wpAny _ _ (call (Value.builtin "list.append") [Value.ref _, _]) _ _ _); k_dflt (refine append_K (by k_asm) (by k_asm) (by k_upd) ?_ (by refine size_ok ?_; (try simp only [List.size_toArray]); omega); k_whole); intro _ _ _; (try k_sweep)) | ((with_reducible show wpAny _ _ (storeName (compEnvC _ _ _ _) _ _) _ _ _); k_dflt (refine cc_store (by assumption) (by assumption) (by exact rfl) (by exact rfl) ?_); intro _ _ _; (try k_sweep)) | ((with_reducible show wpAny _ _ (eval (Expr.Name _ _) (compEnvC _ _ _ _)) _ _ _); k_dflt (refine cc_load (by assumption) (by exact rfl) ?_ (by exact rfl) (by exact rfl) (by exact rfl))) | ((with_reducible show wpAny _ _ _ _ _ _); (fail_if_success (with_reducible first | show wpAny _ _ (exec (Stmt.For _ _ _ _ _) _) _ _ _ | show wpAny _ _ (exec (Stmt.While _ _ _ _) _) _ _ _ | show wpAny _ _ (pyIter _) _ _ _ | show wpAny _ _ (call (Value.builtin "list.pop") _ _) _ _ _ | show wpAny _ _ (call (Value.builtin "str.join") _ _) _ _ _ | show wpAny _ _ (call (Value.builtin "max") _ _) _ _ _ | show wpAny _ _ (setItem _ _ _) _ _ _ | show wpAny _ _ (call (Value.builtin "str.replace") _ _) _ _ _ | show wpAny _ _ (call (Value.builtin "str.split") _ _) _ _ _ | show wpAny _ _ (call (Value.ref _) _ _) _ _ _ | show wpAny _ _ (eval (Expr.ListComp _ _ _ _) _) _ _ _ | show wpAny _ _ (exec (Stmt.Assign _ (Expr.ListComp _ _ _ _) _) _) _ _ _)); first | walk1 | (dsimp only; walk1)) | ((with_reducible show Frag.In _ _ ∧ _); (refine ⟨by k_in, ?_⟩); (try dsimp only [List.nil_append, List.cons_append])) | ((with_reducible show (if _ then _ else _)); walk1))
   rename_i l8 h8 F8 N8 l18
   generalize tk + 1 + 1 = tkl at *
   refine add_lists (vs := cvs) (ws := [_]) F8 N8 ⟨_, (N8 (ac, _) (by k_mem)).1, rfl, _, rfl⟩ ⟨_, (N8 _ (.head _)).1, rfl, _, rfl⟩ ?_ (hsz := ?_)
   rotate_left
   · have := hgp.cl; have h8 := hcv.length; rw [sizeLine_eq, List.length_singleton]; omega
   intro h9 F9 N9
   (first | (k_unfold; (try dsimp only)) | ((with_reducible show wpAny _ _ (execs (_ :: _) _) _ _ _); refine execs_hide ?_; intro Qk9 kH9; (try dsimp only)) | ((with_reducible rename Hid _ _ _ => kH9); first | (refine hid_next kH9 ?_; clear kH9; (try clear Qk9)) | (refine hid_other kH9 (by nofun) ?_; clear kH9; (try clear Qk9)); (try dsimp only)) | ((with_reducible show wpAny _ _ (eval (Expr.Name _ _) (envOfC _ _ _ _ _)) _ _ _); k_dflt (first | refine nmC_L (by exact rfl) (by exact rfl) (by exact rfl) (by assumption) (by exact rfl) ?_ | refine nmC_C (by exact rfl) (by exact rfl) (by exact rfl) (by assumption) (by exact rfl) (by k_mem) (by assumption) ?_ | refine nmC_K (by exact rfl) (by exact rfl) (by exact rfl) (by assumption) (by assumption) (by k_asm) (by k_is) ?_ | refine nmC_B (by exact rfl) (by exact rfl) (by exact rfl) (by assumption) (by assumption) (by k_asm) (by k_is) (by boot_by_name) (by decide) ?_)) | ((with_reducible show wpAny _ _ (eval (Expr.Name _ _) (compEnvC _ _ _ _)) _ _ _); k_dflt (refine cc_cell (by exact rfl) (Fr.keep (by assumption) _ _ (by assumption)) (by assumption) ?_ (by exact rfl) (by exact rfl) (by exact rfl))) | ((with_reducible show wpAny _ _ (eval (Expr.Name _ _) (compEnvC _ _ _ _)) _ _ _); k_dflt (refine cc_blt (by assumption) (by assumption) (by assumption) (by k_is) (by boot_by_name) (by decide) ?_ (by exact rfl) (by exact rfl) (by exact rfl) (by exact rfl) (by exact rfl))) | ((with_reducible show wpAny _ _ (call (Value.builtin "chr") [Value.int _ _]) _ _ _); k_dflt (refine chr_one (by assumption) ?_)) | ((with_reducible show wpAny _ _ (call (Value.builtin "ord") [Value.str _ _]) _ _ _); k_dflt (refine' ord_one ?_)) | ((with_reducible show wpAny _ _ (subscriptTail _ _ (Value.ref _) (Value.int _ _)) _ _ _); k_dflt (refine heap_item (Heap.IsList.at (by assumption) (fun o e => Fr.keep (by assumption) _ _ e)) (by omega) (by omega) (by assumption) ?_ (by exact rfl))) | ((with_reducible show wpAny _ _ (binaryOp Operator.Add (Value.str _ _) (Value.str _ _)) _ _ _); k_dflt (refine SB.add ?_ (add_fits (by walk_at "m_len") (by walk_at "m_len") (by decide +kernel)); intro _ _; (try dsimp only))) | ((with_reducible show wpAny _ _ (call (Value.builtin "len") [Value.str _ _]) _ _ _); k_dflt (refine len_str_ok (Nat.le_trans (by walk_at "m_len") (by decide +kernel)) ?_; (try dsimp only))) | ((with_reducible show wpAny _ _ (call (Value.builtin "list.append") [Value.ref _, _]) _ _ _); k_dflt (refine append_K (by k_asm) (by k_asm) (by k_upd) ?_ (by refine size_ok ?_; (try simp only [List.size_toArray]); omega); k_whole); intro _ _ _; (try k_sweep)) | ((with_reducible show wpAny _ _ (storeName (compEnvC _ _ _ _) _ _) _ _ _); k_dflt (refine cc_store (by assumption) (by assumption) (by exact rfl) (by exact rfl) ?_); intro _ _ _; (try k_sweep)) | ((with_reducible show wpAny _ _ (eval (Expr.Name _ _) (compEnvC _ _ _ _)) _ _ _); k_dflt (refine cc_load (by assumption) (by exact rfl) ?_ (by exact rfl) (by exact rfl) (by exact rfl))) | ((with_reducible show wpAny _ _ _ _ _ _); (fail_if_success (with_reducible first | show wpAny _ _ (exec (Stmt.For _ _ _ _ _) _) _ _ _ | show wpAny _ _ (exec (Stmt.While _ _ _ _) _) _ _ _ | show wpAny _ _ (pyIter _) _ _ _ | show wpAny _ _ (call (Value.builtin "list.pop") _ _) _ _ _ | show wpAny _ _ (call (Value.builtin "str.join") _ _) _ _ _ | show wpAny _ _ (call (Value.builtin "max") _ _) _ _ _ | show wpAny _ _ (setItem _ _ _) _ _ _ | show wpAny _ _ (call (Value.builtin "str.replace") _ _) _ _ _ | show wpAny _ _ (call (Value.builtin "str.split") _ _) _ _ _ | show wpAny _ _ (call (Value.ref _) _ _) _ _ _ | show wpAny _ _ (eval (Expr.ListComp _ _ _ _) _) _ _ _ | show wpAny _ _ (exec (Stmt.Assign _ (Expr.ListComp _ _ _ _) _) _) _ _ _)); first | walk1 | (dsimp only; walk1)) | ((with_reducible show Frag.In _ _ ∧ _); (refine ⟨by k_in, ?_⟩); (try dsimp only [List.nil_append, List.cons_append])) | ((with_reducible show (if _ then _ else _)); walk1))
   try dsimp only
   refine compi_zip (fun i r objs k => ∃ T x y, r = some (.ref T) ∧ objs = [(T, ({ cls := .type "tuple", data := .seq #[x, y] } : Obj))] ∧ ([Value.int 0 tk] ++ cvs)[i]? = some x ∧ (cvs ++ [Value.int (page.length : Int) tkl])[i]? = some y) rfl ⟨_, (N9 (_, { cls := .type "list", data := .seq ([Value.int 0 tk] ++ cvs).toArray }) (by k_mem)).1, rfl, _, rfl⟩ ⟨_, (N9 _ (.head _)).1, rfl, _, rfl⟩ ?_ F9 N9 ?_ ?_
   · have := hgp.cl; have h8 := hcv.length; refine Nat.le_trans (Nat.min_le_left _ _) ?_; rw [List.size_toArray, sizeLine_eq, List.length_append, List.length_singleton]; omega
   · rintro C i v h tk' m₁ olds hi ⟨Tt, vals, rfl, ⟨x, y, hx, hy, rfl⟩, hT⟩ htk2 F₁ N₁
     refine unpackN_ F₁ N₁ hT rfl (by exact rfl) (by exact rfl) ?_
     intro h8 F8 N8
     repeat' (first | (k_unfold; (try dsimp only)) | ((with_reducible show wpAny _ _ (execs (_ :: _) _) _ _ _); refine execs_hide ?_; intro Qk9 kH9; (try dsimp only)) | ((with_reducible rename Hid _ _ _ => kH9); first | (refine hid_next kH9 ?_; clear kH9; (try clear Qk9)) | (refine hid_other kH9 (by nofun) ?_; clear kH9; (try clear Qk9)); (try dsimp only)) | ((with_reducible show wpAny _ _ (eval (Expr.Name _ _) (envOfC _ _ _ _ _)) _ _ _); k_dflt (first | refine nmC_L (by exact rfl) (by exact rfl) (by exact rfl) (by assumption) (by exact rfl) ?_ | refine nmC_C (by exact rfl) (by exact rfl) (by exact rfl) (by assumption) (by exact rfl) (by k_mem) (by assumption) ?_ | refine nmC_K (by exact rfl) (by exact rfl) (by exact rfl) (by assumption) (by assumption) (by k_asm) (by k_is) ?_ | refine nmC_B (by exact rfl) (by exact rfl) (by exact rfl) (by assumption) (by assumption) (by k_asm) (by k_is) (by boot_by_name) (by decide) ?_)) | ((with_reducible show wpAny _ _ (eval (Expr.Name _ _) (compEnvC _ _ _ _)) _ _ _); k_dflt (refine cc_cell (by exact rfl) (Fr.keep (by assumption) _ _ (by assumption)) (by assumption) ?_ (by exact rfl) (by exact rfl) (by exact rfl))) | ((with_reducible show wpAny _ _ (eval (Expr.Name _ _) (compEnvC _ _ _ _)) _ _ _); k_dflt (refine cc_blt (by assumption) (by assumption) (by assumption) (by k_is) (by boot_by_name) (by decide) ?_ (by exact rfl) (by exact rfl) (by exact rfl) (by exact rfl) (by exact rfl))) | ((with_reducible show wpAny _ _ (call (Value.builtin "chr") [Value.int _ _]) _ _ _); k_dflt (refine chr_one (by assumption) ?_)) | ((with_reducible show wpAny _ _ (call (Value.builtin "ord") [Value.str _ _]) _ _ _); k_dflt (refine' ord_one ?_)) | ((with_reducible show wpAny _ _ (subscriptTail _ _ (Value.ref _) (Value.int _ _)) _ _ _); k_dflt (refine heap_item (Heap.IsList.at (by assumption) (fun o e => Fr.keep (by assumption) _ _ e)) (by omega) (by omega) (by assumption) ?_ (by exact rfl))) | ((with_reducible show wpAny _ _ (binaryOp Operator.Add (Value.str _ _) (Value.str _ _)) _ _ _); k_dflt (refine SB.add ?_ (add_fits (by walk_at "m_len") (by walk_at "m_len") (by decide +kernel)); intro _ _; (try dsimp only))) | ((with_reducible show wpAny _ _ (call (Value.builtin "len") [Value.str _ _]) _ _ _); k_dflt (refine len_str_ok (Nat.le_trans (by walk_at "m_len") (by decide +kernel)) ?_; (try dsimp only))) | ((with_reducible show wpAny _ _ (call (Value.builtin "list.append") [Value.ref _, _]) _ _ _); k_dflt (refine append_K (by k_asm) (by k_asm) (by k_upd) ?_ (by refine size_ok ?_; (try simp only [List.size_toArray]); omega); k_whole); intro _ _ _; (try k_sweep)) | ((with_reducible show wpAny _ _ (storeName (compEnvC _ _ _ _) _ _) _ _ _); k_dflt (refine cc_store (by assumption) (by assumption) (by exact rfl) (by exact rfl) ?_); intro _ _ _; (try k_sweep)) | ((with_reducible show wpAny _ _ (eval (Expr.Name _ _) (compEnvC _ _ _ _)) _ _ _); k_dflt (refine cc_load (by assumption) (by exact rfl) ?_ (by exact rfl) (by exact rfl) (by exact rfl))) | ((with_reducible show wpAny _ _ _ _ _ _); (fail_if_success (with_reducible first | show wpAny _ _ (exec (Stmt.For _ _ _ _ _) _) _ _ _ | show wpAny _ _ (exec (Stmt.While _ _ _ _) _) _ _ _ | show wpAny _ _ (pyIter _) _ _ _ | show wpAny _ _ (call (Value.builtin "list.pop") _ _) _ _ _ | show wpAny _ _ (call (Value.builtin "str.join") _ _) _ _ _ | show wpAny _ _ (call (Value.builtin "max") _ _) _ _ _ | show wpAny _ _ (setItem _ _ _) _ _ _ | show wpAny _ _ (call (Value.builtin "str.replace") _ _) _ _ _ | show wpAny _ _ (call (Value.builtin "str.split") _ _) _ _ _ | show wpAny _ _ (call (Value.ref _) _ _) _ _ _ | show wpAny _ _ (eval (Expr.ListComp _ _ _ _) _) _ _ _ | show wpAny _ _ (exec (Stmt.Assign _ (Expr.ListComp _ _ _ _) _) _) _ _ _)); first | walk1 | (dsimp only; walk1)) | ((with_reducible show Frag.In _ _ ∧ _); (refine ⟨by k_in, ?_⟩); (try dsimp only [List.nil_append, List.cons_append])) | ((with_reducible show (if _ then _ else _)); walk1))
     (rename Fr _ _ _ _ => F')
     (rename News _ _ _ _ => N')
     (rename (∀ p : Addr × Obj, p ∈ olds → p.1 < _) => hlt)
     exact ⟨_, _, _, [_], rfl, F', N', (fun p hp q hq => by rw [List.mem_singleton.mp hp]; exact (neN (Nat.ne_of_gt (hlt q hq)))), _, x, y, rfl, rfl, by simpa using hx, by simpa using hy⟩
   intro hX D10 h10 tk10 rs k10 hD10 hdis10 htk10 hlen10 hEl10 F10 N10
   (first | (k_unfold; (try dsimp only)) | ((with_reducible show wpAny _ _ (execs (_ :: _) _) _ _ _); refine execs_hide ?_; intro Qk9 kH9; (try dsimp only)) | ((with_reducible rename Hid _ _ _ => kH9); first | (refine hid_next kH9 ?_; clear kH9; (try clear Qk9)) | (refine hid_other kH9 (by nofun) ?_; clear kH9; (try clear Qk9)); (try dsimp only)) | ((with_reducible show wpAny _ _ (eval (Expr.Name _ _) (envOfC _ _ _ _ _)) _ _ _); k_dflt (first | refine nmC_L (by exact rfl) (by exact rfl) (by exact rfl) (by assumption) (by exact rfl) ?_ | refine nmC_C (by exact rfl) (by exact rfl) (by exact rfl) (by assumption) (by exact rfl) (by k_mem) (by assumption) ?_ | refine nmC_K (by exact rfl) (by exact rfl) (by exact rfl) (by assumption) (by assumption) (by k_asm) (by k_is) ?_ | refine nmC_B (by exact rfl) (by exact rfl) (by exact rfl) (by assumption) (by assumption) (by k_asm) (by k_is) (by boot_by_name) (by decide) ?_)) | ((with_reducible show wpAny _ _ (eval (Expr.Name _ _) (compEnvC _ _ _ _)) _ _ _); k_dflt (refine cc_cell (by exact rfl) (Fr.keep (by assumption) _ _ (by assumption)) (by assumption) ?_ (by exact rfl) (by exact rfl) (by exact rfl))) | ((with_reducible show wpAny _ _ (eval (Expr.Name _ _) (compEnvC _ _ _ _)) _ _ _); k_dflt (refine cc_blt (by assumption) (by assumption) (by assumption) (by k_is) (by boot_by_name) (by decide) ?_ (by exact rfl) (by exact rfl) (by exact rfl) (by exact rfl) (by exact rfl))) | ((with_reducible show wpAny _ _ (call (Value.builtin "chr") [Value.int _ _]) _ _ _); k_dflt (refine chr_one (by assumption) ?_)) | ((with_reducible show wpAny _ _ (call (Value.builtin "ord") [Value.str _ _]) _ _ _); k_dflt (refine' ord_one ?_)) | ((with_reducible show wpAny _ _ (subscriptTail _ _ (Value.ref _) (Value.int _ _)) _ _ _); k_dflt (refine heap_item (Heap.IsList.at (by assumption) (fun o e => Fr.keep (by assumption) _ _ e)) (by omega) (by omega) (by assumption) ?_ (by exact rfl))) | ((with_reducible show wpAny _ _ (binaryOp Operator.Add (Value.str _ _) (Value.str _ _)) _ _ _); k_dflt (refine SB.add ?_ (add_fits (by walk_at "m_len") (by walk_at "m_len") (by decide +kernel)); intro _ _; (try dsimp only))) | ((with_reducible show wpAny _ _ (call (Value.builtin "len") [Value.str _ _]) _ _ _); k_dflt (refine len_str_ok (Nat.le_trans (by walk_at "m_len") (by decide +kernel)) ?_; (try dsimp only))) | ((with_reducible show wpAny _ _ (call (Value.builtin "list.append") [Value.ref _, _]) _ _ _); k_dflt (refine append_K (by k_asm) (by k_asm) (by k_upd) ?_ (by refine size_ok ?_; (try simp only [List.size_toArray]); omega); k_whole); intro _ _ _; (try k_sweep)) | ((with_reducible show wpAny _ _ (storeName (compEnvC _ _ _ _) _ _) _ _ _); k_dflt (refine cc_store (by assumption) (by assumption) (by exact rfl) (by exact rfl) ?_); intro _ _ _; (try k_sweep)) | ((with_reducible show wpAny _ _ (eval (Expr.Name _ _) (compEnvC _ _ _ _)) _ _ _); k_dflt (refine cc_load (by assumption) (by exact rfl) ?_ (by exact rfl) (by exact rfl) (by exact rfl))) | ((with_reducible show wpAny _ _ _ _ _ _); (fail_if_success (with_reducible first | show wpAny _ _ (exec (Stmt.For _ _ _ _ _) _) _ _ _ | show wpAny _ _ (exec (Stmt.While _ _ _ _) _) _ _ _ | show wpAny _ _ (pyIter _) _ _ _ | show wpAny _ _ (call (Value.builtin "list.pop") _ _) _ _ _ | show wpAny _ _ (call (Value.builtin "str.join") _ _) _ _ _ | show wpAny _ _ (call (Value.builtin "max") _ _) _ _ _ | show wpAny _ _ (setItem _ _ _) _ _ _ | show wpAny _ _ (call (Value.builtin "str.replace") _ _) _ _ _ | show wpAny _ _ (call (Value.builtin "str.split") _ _) _ _ _ | show wpAny _ _ (call (Value.ref _) _ _) _ _ _ | show wpAny _ _ (eval (Expr.ListComp _ _ _ _) _) _ _ _ | show wpAny _ _ (exec (Stmt.Assign _ (Expr.ListComp _ _ _ _) _) _) _ _ _)); first | walk1 | (dsimp only; walk1)) | ((with_reducible show Frag.In _ _ ∧ _); (refine ⟨by k_in, ?_⟩); (try dsimp only [List.nil_append, List.cons_append])) | ((with_reducible show (if _ then _ else _)); walk1))
   --CUT
   (rename Obj => opg)
   have pk : ∃ bvs tl, TupsOf (bnd cuts page.length) tl bvs ∧ News _ _ h10 ((D10, listOf bvs.toArray k10) :: _ :: _ :: _ :: _ :: _ :: tl) ∧ (∀ p ∈ tl, p.1 ≠ _) ∧ (∀ p ∈ tl, p.1 ≠ _) ∧ (∀ p ∈ tl, p.1 ≠ _) ∧ (∀ p ∈ tl, p.1 ≠ _) ∧ (∀ p ∈ tl, p.1 ≠ _) :=
     ⟨_, _, tups_of hcv hlen10 hEl10, news_rot N10, (ne_rot hdis10).1, (ne_rot hdis10).2.1, (ne_rot hdis10).2.2.1, (ne_rot hdis10).2.2.2.1, (ne_rot hdis10).2.2.2.2⟩
   obtain ⟨lc1, lc2, lc3, lc4, lc5⟩ := lt_rot hD10
   replace htk10 : 1 ≤ tk10 := Nat.le_trans (Nat.succ_le_succ (Nat.zero_le _)) htk10
   clear hEl10 hD10 hdis10 N10 hlen10 F9 N9 F8 N8
   clear rs
   obtain ⟨bvs, tl, htup, N11, tc1, tc2, tc3, tc4, tc5⟩ := pk
   change Fr s.heap s.heap.objs.size h10 _ at F10
   change News s.heap s.heap.objs.size h10 _ at N11
   (try dsimp only)
   clear l18 na1 na2 na3 na4 na5 nc1 nc2 nc3 nc4 nc5 hgac hga hl hi hlen hI1 st2 st4
   obtain ⟨m10, tt1, F11, hm10⟩ : ∃ m10 tt1, Fr s.heap s.heap.objs.size h10 m10 ∧ ∀ q ∈ [(Str.ofString "total_sum", Value.int ns.sum tt1), (Str.ofString "data", Value.bytes (List.map UInt8.ofNat (dataOf page.cps.toList)).toArray t4), (Str.ofString "bounds", Value.ref D10)], m10 q.1 = some q.2 := ⟨_, _, F10, by kst_all⟩
   clear F10
   replace F11 := fr_kst _ F11 hm10
   simp only [kstB] at F11
   change Fr s.heap s.heap.objs.size h10 _ at F11
   (try k_fold)
   repeat' (first | ((with_reducible show ((_ : Nat) ≤ _ → _)); intro htk9; (try dsimp only at htk9); revert htk9; intro _) | ((with_reducible show wpAny _ _ (execs (_ :: _) _) _ _ _); refine execs_hidt (by first | omega | (dsimp only; omega)) ?_; intro _ _ htk9; (try dsimp only at htk9); revert htk9; intro _ Qk9 kH9; (try dsimp only)) | ((with_reducible show wpAny _ _ (execs [] _) _ _ _); refine wpAny_execs_nil ?_; (try dsimp only)) | ((first | (k_unfold; (try dsimp only)) | ((with_reducible show wpAny _ _ (execs (_ :: _) _) _ _ _); refine execs_hide ?_; intro Qk9 kH9; (try dsimp only)) | ((with_reducible rename Hid _ _ _ => kH9); first | (refine hid_next kH9 ?_; clear kH9; (try clear Qk9)) | (refine hid_other kH9 (by nofun) ?_; clear kH9; (try clear Qk9)); (try dsimp only)) | ((with_reducible show wpAny _ _ (eval (Expr.Name _ _) (envOfC _ _ _ _ _)) _ _ _); k_dflt (first | refine nmC_L (by exact rfl) (by exact rfl) (by exact rfl) (by assumption) (by exact rfl) ?_ | refine nmC_C (by exact rfl) (by exact rfl) (by exact rfl) (by assumption) (by exact rfl) (by k_mem) (by assumption) ?_ | refine nmC_K (by exact rfl) (by exact rfl) (by exact rfl) (by assumption) (by assumption) (by k_asm) (by k_is) ?_ | refine nmC_B (by exact rfl) (by exact rfl) (by exact rfl) (by assumption) (by assumption) (by k_asm) (by k_is) (by boot_by_name) (by decide) ?_)) | ((with_reducible show wpAny _ _ (eval (Expr.Name _ _) (compEnvC _ _ _ _)) _ _ _); k_dflt (refine cc_cell (by exact rfl) (Fr.keep (by assumption) _ _ (by assumption)) (by assumption) ?_ (by exact rfl) (by exact rfl) (by exact rfl))) | ((with_reducible show wpAny _ _ (eval (Expr.Name _ _) (compEnvC _ _ _ _)) _ _ _); k_dflt (refine cc_blt (by assumption) (by assumption) (by assumption) (by k_is) (by boot_by_name) (by decide) ?_ (by exact rfl) (by exact rfl) (by exact rfl) (by exact rfl) (by exact rfl))) | ((with_reducible show wpAny _ _ (call (Value.builtin "chr") [Value.int _ _]) _ _ _); k_dflt (refine chr_one (by assumption) ?_)) | ((with_reducible show wpAny _ _ (call (Value.builtin "ord") [Value.str _ _]) _ _ _); k_dflt (refine' ord_one ?_)) | ((with_reducible show wpAny _ _ (subscriptTail _ _ (Value.ref _) (Value.int _ _)) _ _ _); k_dflt (refine heap_item (Heap.IsList.at (by assumption) (fun o e => Fr.keep (by assumption) _ _ e)) (by omega) (by omega) (by assumption) ?_ (by exact rfl))) | ((with_reducible show wpAny _ _ (binaryOp Operator.Add (Value.str _ _) (Value.str _ _)) _ _ _); k_dflt (refine SB.add ?_ (add_fits (by walk_at "m_len") (by walk_at "m_len") (by decide +kernel)); intro _ _; (try dsimp only))) | ((with_reducible show wpAny _ _ (call (Value.builtin "len") [Value.str _ _]) _ _ _); k_dflt (refine len_str_ok (Nat.le_trans (by walk_at "m_len") (by decide +kernel)) ?_; (try dsimp only))) | ((with_reducible show wpAny _ _ (call (Value.builtin "list.append") [Value.ref _, _]) _ _ _); k_dflt (refine append_K (by k_asm) (by k_asm) (by k_upd) ?_ (by refine size_ok ?_; (try simp only [List.size_toArray]); omega); k_whole); intro _ _ _; (try k_sweep)) | ((with_reducible show wpAny _ _ (storeName (compEnvC _ _ _ _) _ _) _ _ _); k_dflt (refine cc_store (by assumption) (by assumption) (by exact rfl) (by exact rfl) ?_); intro _ _ _; (try k_sweep)) | ((with_reducible show wpAny _ _ (eval (Expr.Name _ _) (compEnvC _ _ _ _)) _ _ _); k_dflt (refine cc_load (by assumption) (by exact rfl) ?_ (by exact rfl) (by exact rfl) (by exact rfl))) | ((with_reducible show wpAny _ _ _ _ _ _); (fail_if_success (with_reducible first | show wpAny _ _ (exec (Stmt.For _ _ _ _ _) _) _ _ _ | show wpAny _ _ (exec (Stmt.While _ _ _ _) _) _ _ _ | show wpAny _ _ (pyIter _) _ _ _ | show wpAny _ _ (call (Value.builtin "list.pop") _ _) _ _ _ | show wpAny _ _ (call (Value.builtin "str.join") _ _) _ _ _ | show wpAny _ _ (call (Value.builtin "max") _ _) _ _ _ | show wpAny _ _ (setItem _ _ _) _ _ _ | show wpAny _ _ (call (Value.builtin "str.replace") _ _) _ _ _ | show wpAny _ _ (call (Value.builtin "str.split") _ _) _ _ _ | show wpAny _ _ (call (Value.ref _) _ _) _ _ _ | show wpAny _ _ (eval (Expr.ListComp _ _ _ _) _) _ _ _ | show wpAny _ _ (exec (Stmt.Assign _ (Expr.ListComp _ _ _ _) _) _) _ _ _)); first | walk1 | (dsimp only; walk1)) | ((with_reducible show Frag.In _ _ ∧ _); (refine ⟨by k_in, ?_⟩); (try dsimp only [List.nil_append, List.cons_append])) | ((with_reducible show (if _ then _ else _)); walk1)); (try dsimp only)))
   refine noE_mono (comp_eval (by exact rfl) (by decide) (by exact rfl) (by decide) ?_)
   repeat' (first | ((with_reducible show ((_ : Nat) ≤ _ → _)); intro htk9; (try dsimp only at htk9); revert htk9; intro _) | ((with_reducible show wpAny _ _ (execs (_ :: _) _) _ _ _); refine execs_hidt (by first | omega | (dsimp only; omega)) ?_; intro _ _ htk9; (try dsimp only at htk9); revert htk9; intro _ Qk9 kH9; (try dsimp only)) | ((with_reducible show wpAny _ _ (execs [] _) _ _ _); refine wpAny_execs_nil ?_; (try dsimp only)) | ((first | (k_unfold; (try dsimp only)) | ((with_reducible show wpAny _ _ (execs (_ :: _) _) _ _ _); refine execs_hide ?_; intro Qk9 kH9; (try dsimp only)) | ((with_reducible rename Hid _ _ _ => kH9); first | (refine hid_next kH9 ?_; clear kH9; (try clear Qk9)) | (refine hid_other kH9 (by nofun) ?_; clear kH9; (try clear Qk9)); (try dsimp only)) | ((with_reducible show wpAny _ _ (eval (Expr.Name _ _) (envOfC _ _ _ _ _)) _ _ _); k_dflt (first | refine nmC_L (by exact rfl) (by exact rfl) (by exact rfl) (by assumption) (by exact rfl) ?_ | refine nmC_C (by exact rfl) (by exact rfl) (by exact rfl) (by assumption) (by exact rfl) (by k_mem) (by assumption) ?_ | refine nmC_K (by exact rfl) (by exact rfl) (by exact rfl) (by assumption) (by assumption) (by k_asm) (by k_is) ?_ | refine nmC_B (by exact rfl) (by exact rfl) (by exact rfl) (by assumption) (by assumption) (by k_asm) (by k_is) (by boot_by_name) (by decide) ?_)) | ((with_reducible show wpAny _ _ (eval (Expr.Name _ _) (compEnvC _ _ _ _)) _ _ _); k_dflt (refine cc_cell (by exact rfl) (Fr.keep (by assumption) _ _ (by assumption)) (by assumption) ?_ (by exact rfl) (by exact rfl) (by exact rfl))) | ((with_reducible show wpAny _ _ (eval (Expr.Name _ _) (compEnvC _ _ _ _)) _ _ _); k_dflt (refine cc_blt (by assumption) (by assumption) (by assumption) (by k_is) (by boot_by_name) (by decide) ?_ (by exact rfl) (by exact rfl) (by exact rfl) (by exact rfl) (by exact rfl))) | ((with_reducible show wpAny _ _ (call (Value.builtin "chr") [Value.int _ _]) _ _ _); k_dflt (refine chr_one (by assumption) ?_)) | ((with_reducible show wpAny _ _ (call (Value.builtin "ord") [Value.str _ _]) _ _ _); k_dflt (refine' ord_one ?_)) | ((with_reducible show wpAny _ _ (subscriptTail _ _ (Value.ref _) (Value.int _ _)) _ _ _); k_dflt (refine heap_item (Heap.IsList.at (by assumption) (fun o e => Fr.keep (by assumption) _ _ e)) (by omega) (by omega) (by assumption) ?_ (by exact rfl))) | ((with_reducible show wpAny _ _ (binaryOp Operator.Add (Value.str _ _) (Value.str _ _)) _ _ _); k_dflt (refine SB.add ?_ (add_fits (by walk_at "m_len") (by walk_at "m_len") (by decide +kernel)); intro _ _; (try dsimp only))) | ((with_reducible show wpAny _ _ (call (Value.builtin "len") [Value.str _ _]) _ _ _); k_dflt (refine len_str_ok (Nat.le_trans (by walk_at "m_len") (by decide +kernel)) ?_; (try dsimp only))) | ((with_reducible show wpAny _ _ (call (Value.builtin "list.append") [Value.ref _, _]) _ _ _); k_dflt (refine append_K (by k_asm) (by k_asm) (by k_upd) ?_ (by refine size_ok ?_; (try simp only [List.size_toArray]); omega); k_whole); intro _ _ _; (try k_sweep)) | ((with_reducible show wpAny _ _ (storeName (compEnvC _ _ _ _) _ _) _ _ _); k_dflt (refine cc_store (by assumption) (by assumption) (by exact rfl) (by exact rfl) ?_); intro _ _ _; (try k_sweep)) | ((with_reducible show wpAny _ _ (eval (Expr.Name _ _) (compEnvC _ _ _ _)) _ _ _); k_dflt (refine cc_load (by assumption) (by exact rfl) ?_ (by exact rfl) (by exact rfl) (by exact rfl))) | ((with_reducible show wpAny _ _ _ _ _ _); (fail_if_success (with_reducible first | show wpAny _ _ (exec (Stmt.For _ _ _ _ _) _) _ _ _ | show wpAny _ _ (exec (Stmt.While _ _ _ _) _) _ _ _ | show wpAny _ _ (pyIter _) _ _ _ | show wpAny _ _ (call (Value.builtin "list.pop") _ _) _ _ _ | show wpAny _ _ (call (Value.builtin "str.join") _ _) _ _ _ | show wpAny _ _ (call (Value.builtin "max") _ _) _ _ _ | show wpAny _ _ (setItem _ _ _) _ _ _ | show wpAny _ _ (call (Value.builtin "str.replace") _ _) _ _ _ | show wpAny _ _ (call (Value.builtin "str.split") _ _) _ _ _ | show wpAny _ _ (call (Value.ref _) _ _) _ _ _ | show wpAny _ _ (eval (Expr.ListComp _ _ _ _) _) _ _ _ | show wpAny _ _ (exec (Stmt.Assign _ (Expr.ListComp _ _ _ _) _) _) _ _ _)); first | walk1 | (dsimp only; walk1)) | ((with_reducible show Frag.In _ _ ∧ _); (refine ⟨by k_in, ?_⟩); (try dsimp only [List.nil_append, List.cons_append])) | ((with_reducible show (if _ then _ else _)); walk1)); (try dsimp only)))
   (with_reducible rename (_ = Data.cell (some (Value.str page tp))) => dpage)
   have hcell := (N11 _ (.tail _ (.tail _ (.tail _ (.tail _ (.tail _ (.head _))))))).1
   dsimp only at hcell
   try dsimp only
   refine compi_list (fun i r objs k => ∃ q, (bnd cuts page.length)[i]? = some q ∧ objs = [] ∧ (if q.1 < q.2 then ∃ t, r = some (.str (Txt.slice page (some q.1) (some q.2)) t) else r = none)) rfl ⟨_, (N11 _ (.head _)).1, rfl, _, rfl⟩ ?_ ?_ ?_
   · have := hgp.cl; rw [List.size_toArray, htup.1, bnd_len, sizeLine_eq]; omega
   · rintro C i v h tk' m₁ olds hi hv htk2 F₁ N₁
     dsimp only at F₁ N₁
     rw [List.size_toArray, htup.1] at hi
     obtain ⟨T2, t, u, hT, hm⟩ := htup.2 i _ (List.getElem?_eq_getElem hi)
     have hv' : bvs[i]? = some v := by simpa using hv
     rw [hT] at hv'
     cases hv'
     have hTup : IsTup h T2 #[.int ((bnd cuts page.length)[i]).1 t, .int ((bnd cuts page.length)[i]).2 u] := ⟨_, F₁.keep _ _ (N11 _ (.tail _ (.tail _ (.tail _ (.tail _ (.tail _ (.tail _ hm))))))).1, rfl, _, rfl⟩
     have hbi := bnd_mem hgp _ (List.getElem_mem hi)
     have hgi : (bnd cuts page.length)[i]? = some (bnd cuts page.length)[i] := List.getElem?_eq_getElem hi
     generalize (bnd cuts page.length)[i] = q at hTup hbi hgi ⊢
     obtain ⟨qa, qb⟩ := q
     dsimp only at hTup hbi
     clear F11 N11 hm10 hT hm hv
     refine unpackN_ F₁ N₁ hTup rfl (by exact rfl) (by exact rfl) ?_
     intro h8 F8 N8
     try dsimp only
     repeat' ((first | (k_unfold; (try dsimp only)) | ((with_reducible show wpAny _ _ (execs (_ :: _) _) _ _ _); refine execs_hide ?_; intro Qk9 kH9; (try dsimp only)) | ((with_reducible rename Hid _ _ _ => kH9); first | (refine hid_next kH9 ?_; clear kH9; (try clear Qk9)) | (refine hid_other kH9 (by nofun) ?_; clear kH9; (try clear Qk9)); (try dsimp only)) | ((with_reducible show wpAny _ _ (eval (Expr.Name _ _) (envOfC _ _ _ _ _)) _ _ _); k_dflt (first | refine nmC_L (by exact rfl) (by exact rfl) (by exact rfl) (by assumption) (by exact rfl) ?_ | refine nmC_C (by exact rfl) (by exact rfl) (by exact rfl) (by assumption) (by exact rfl) (by k_mem) (by assumption) ?_ | refine nmC_K (by exact rfl) (by exact rfl) (by exact rfl) (by assumption) (by assumption) (by k_asm) (by k_is) ?_ | refine nmC_B (by exact rfl) (by exact rfl) (by exact rfl) (by assumption) (by assumption) (by k_asm) (by k_is) (by boot_by_name) (by decide) ?_)) | ((with_reducible show wpAny _ _ (eval (Expr.Name _ _) (compEnvC _ _ _ _)) _ _ _); k_dflt (refine cc_cell (by exact rfl) (Fr.keep (by assumption) _ _ (by assumption)) (by assumption) ?_ (by exact rfl) (by exact rfl) (by exact rfl))) | ((with_reducible show wpAny _ _ (eval (Expr.Name _ _) (compEnvC _ _ _ _)) _ _ _); k_dflt (refine cc_blt (by assumption) (by assumption) (by assumption) (by k_is) (by boot_by_name) (by decide) ?_ (by exact rfl) (by exact rfl) (by exact rfl) (by exact rfl) (by exact rfl))) | ((with_reducible show wpAny _ _ (call (Value.builtin "chr") [Value.int _ _]) _ _ _); k_dflt (refine chr_one (by assumption) ?_)) | ((with_reducible show wpAny _ _ (call (Value.builtin "ord") [Value.str _ _]) _ _ _); k_dflt (refine' ord_one ?_)) | ((with_reducible show wpAny _ _ (subscriptTail _ _ (Value.ref _) (Value.int _ _)) _ _ _); k_dflt (refine heap_item (Heap.IsList.at (by assumption) (fun o e => Fr.keep (by assumption) _ _ e)) (by omega) (by omega) (by assumption) ?_ (by exact rfl))) | ((with_reducible show wpAny _ _ (binaryOp Operator.Add (Value.str _ _) (Value.str _ _)) _ _ _); k_dflt (refine SB.add ?_ (add_fits (by walk_at "m_len") (by walk_at "m_len") (by decide +kernel)); intro _ _; (try dsimp only))) | ((with_reducible show wpAny _ _ (call (Value.builtin "len") [Value.str _ _]) _ _ _); k_dflt (refine len_str_ok (Nat.le_trans (by walk_at "m_len") (by decide +kernel)) ?_; (try dsimp only))) | ((with_reducible show wpAny _ _ (call (Value.builtin "list.append") [Value.ref _, _]) _ _ _); k_dflt (refine append_K (by k_asm) (by k_asm) (by k_upd) ?_ (by refine size_ok ?_; (try simp only [List.size_toArray]); omega); k_whole); intro _ _ _; (try k_sweep)) | ((with_reducible show wpAny _ _ (storeName (compEnvC _ _ _ _) _ _) _ _ _); k_dflt (refine cc_store (by assumption) (by assumption) (by exact rfl) (by exact rfl) ?_); intro _ _ _; (try k_sweep)) | ((with_reducible show wpAny _ _ (eval (Expr.Name _ _) (compEnvC _ _ _ _)) _ _ _); k_dflt (refine cc_load (by assumption) (by exact rfl) ?_ (by exact rfl) (by exact rfl) (by exact rfl))) | ((with_reducible show wpAny _ _ _ _ _ _); (fail_if_success (with_reducible first | show wpAny _ _ (exec (Stmt.For _ _ _ _ _) _) _ _ _ | show wpAny _ _ (exec (Stmt.While _ _ _ _) _) _ _ _ | show wpAny _ _ (pyIter _) _ _ _ | show wpAny _ _ (call (Value.builtin "list.pop") _ _) _ _ _ | show wpAny _ _ (call (Value.builtin "str.join") _ _) _ _ _ | show wpAny _ _ (call (Value.builtin "max") _ _) _ _ _ | show wpAny _ _ (setItem _ _ _) _ _ _ | show wpAny _ _ (call (Value.builtin "str.replace") _ _) _ _ _ | show wpAny _ _ (call (Value.builtin "str.split") _ _) _ _ _ | show wpAny _ _ (call (Value.ref _) _ _) _ _ _ | show wpAny _ _ (eval (Expr.ListComp _ _ _ _) _) _ _ _ | show wpAny _ _ (exec (Stmt.Assign _ (Expr.ListComp _ _ _ _) _) _) _ _ _)); first | walk1 | (dsimp only; walk1)) | ((with_reducible show Frag.In _ _ ∧ _); (refine ⟨by k_in, ?_⟩); (try dsimp only [List.nil_append, List.cons_append])) | ((with_reducible show (if _ then _ else _)); walk1)); (try dsimp only))
     · (rename Fr _ _ _ _ => F9)
       (rename News _ _ _ _ => N9)
       exact ⟨_, _, _, [], rfl, F9, N9, (fun p hp => nomatch hp), (qa, qb), hgi, rfl, by rw [if_pos (by assumption)]; exact ⟨_, rfl⟩⟩
     · (rename Fr _ _ _ _ => F9)
       (rename News _ _ _ _ => N9)
       exact ⟨_, _, _, [], rfl, F9, N9, (fun p hp => nomatch hp), (qa, qb), hgi, rfl, by rw [if_neg (by assumption)]⟩
   intro h6 D6 h7 tk7 rs6 hD6 hle6 hlen6 hEl6 hlist6 hst6 hobj6
   dsimp only at hle6
   have hst := strs_picked (x := page) (bs := []) (rs := rs6) (qs := bnd cuts page.length) (by rw [hlen6, List.size_toArray, htup.1]) (fun i r hr => by
     obtain ⟨_, _, q, h1, _, h2⟩ := hEl6 i r hr
     exact ⟨q, h1, h2⟩)
   try dsimp only
   have F12 := fr_stays F11 hst6
   have N12 := news_stays N11 hst6
   clear F11 N11 hEl6 hobj6 hlen6 hcell
   generalize rs6.filterMap (·.1) = jvs at hst hlist6
   repeat' (first | ((with_reducible show ((_ : Nat) ≤ _ → _)); intro htk9; (try dsimp only at htk9); revert htk9; intro _) | ((with_reducible show wpAny _ _ (execs (_ :: _) _) _ _ _); refine execs_hidt (by first | omega | (dsimp only; omega)) ?_; intro _ _ htk9; (try dsimp only at htk9); revert htk9; intro _ Qk9 kH9; (try dsimp only)) | ((with_reducible show wpAny _ _ (execs [] _) _ _ _); refine wpAny_execs_nil ?_; (try dsimp only)) | ((first | (k_unfold; (try dsimp only)) | ((with_reducible show wpAny _ _ (execs (_ :: _) _) _ _ _); refine execs_hide ?_; intro Qk9 kH9; (try dsimp only)) | ((with_reducible rename Hid _ _ _ => kH9); first | (refine hid_next kH9 ?_; clear kH9; (try clear Qk9)) | (refine hid_other kH9 (by nofun) ?_; clear kH9; (try clear Qk9)); (try dsimp only)) | ((with_reducible show wpAny _ _ (eval (Expr.Name _ _) (envOfC _ _ _ _ _)) _ _ _); k_dflt (first | refine nmC_L (by exact rfl) (by exact rfl) (by exact rfl) (by assumption) (by exact rfl) ?_ | refine nmC_C (by exact rfl) (by exact rfl) (by exact rfl) (by assumption) (by exact rfl) (by k_mem) (by assumption) ?_ | refine nmC_K (by exact rfl) (by exact rfl) (by exact rfl) (by assumption) (by assumption) (by k_asm) (by k_is) ?_ | refine nmC_B (by exact rfl) (by exact rfl) (by exact rfl) (by assumption) (by assumption) (by k_asm) (by k_is) (by boot_by_name) (by decide) ?_)) | ((with_reducible show wpAny _ _ (eval (Expr.Name _ _) (compEnvC _ _ _ _)) _ _ _); k_dflt (refine cc_cell (by exact rfl) (Fr.keep (by assumption) _ _ (by assumption)) (by assumption) ?_ (by exact rfl) (by exact rfl) (by exact rfl))) | ((with_reducible show wpAny _ _ (eval (Expr.Name _ _) (compEnvC _ _ _ _)) _ _ _); k_dflt (refine cc_blt (by assumption) (by assumption) (by assumption) (by k_is) (by boot_by_name) (by decide) ?_ (by exact rfl) (by exact rfl) (by exact rfl) (by exact rfl) (by exact rfl))) | ((with_reducible show wpAny _ _ (call (Value.builtin "chr") [Value.int _ _]) _ _ _); k_dflt (refine chr_one (by assumption) ?_)) | ((with_reducible show wpAny _ _ (call (Value.builtin "ord") [Value.str _ _]) _ _ _); k_dflt (refine' ord_one ?_)) | ((with_reducible show wpAny _ _ (subscriptTail _ _ (Value.ref _) (Value.int _ _)) _ _ _); k_dflt (refine heap_item (Heap.IsList.at (by assumption) (fun o e => Fr.keep (by assumption) _ _ e)) (by omega) (by omega) (by assumption) ?_ (by exact rfl))) | ((with_reducible show wpAny _ _ (binaryOp Operator.Add (Value.str _ _) (Value.str _ _)) _ _ _); k_dflt (refine SB.add ?_ (add_fits (by walk_at "m_len") (by walk_at "m_len") (by decide +kernel)); intro _ _; (try dsimp only))) | ((with_reducible show wpAny _ _ (call (Value.builtin "len") [Value.str _ _]) _ _ _); k_dflt (refine len_str_ok (Nat.le_trans (by walk_at "m_len") (by decide +kernel)) ?_; (try dsimp only))) | ((with_reducible show wpAny _ _ (call (Value.builtin "list.append") [Value.ref _, _]) _ _ _); k_dflt (refine append_K (by k_asm) (by k_asm) (by k_upd) ?_ (by refine size_ok ?_; (try simp only [List.size_toArray]); omega); k_whole); intro _ _ _; (try k_sweep)) | ((with_reducible show wpAny _ _ (storeName (compEnvC _ _ _ _) _ _) _ _ _); k_dflt (refine cc_store (by assumption) (by assumption) (by exact rfl) (by exact rfl) ?_); intro _ _ _; (try k_sweep)) | ((with_reducible show wpAny _ _ (eval (Expr.Name _ _) (compEnvC _ _ _ _)) _ _ _); k_dflt (refine cc_load (by assumption) (by exact rfl) ?_ (by exact rfl) (by exact rfl) (by exact rfl))) | ((with_reducible show wpAny _ _ _ _ _ _); (fail_if_success (with_reducible first | show wpAny _ _ (exec (Stmt.For _ _ _ _ _) _) _ _ _ | show wpAny _ _ (exec (Stmt.While _ _ _ _) _) _ _ _ | show wpAny _ _ (pyIter _) _ _ _ | show wpAny _ _ (call (Value.builtin "list.pop") _ _) _ _ _ | show wpAny _ _ (call (Value.builtin "str.join") _ _) _ _ _ | show wpAny _ _ (call (Value.builtin "max") _ _) _ _ _ | show wpAny _ _ (setItem _ _ _) _ _ _ | show wpAny _ _ (call (Value.builtin "str.replace") _ _) _ _ _ | show wpAny _ _ (call (Value.builtin "str.split") _ _) _ _ _ | show wpAny _ _ (call (Value.ref _) _ _) _ _ _ | show wpAny _ _ (eval (Expr.ListComp _ _ _ _) _) _ _ _ | show wpAny _ _ (exec (Stmt.Assign _ (Expr.ListComp _ _ _ _) _) _) _ _ _)); first | walk1 | (dsimp only; walk1)) | ((with_reducible show Frag.In _ _ ∧ _); (refine ⟨by k_in, ?_⟩); (try dsimp only [List.nil_append, List.cons_append])) | ((with_reducible show (if _ then _ else _)); walk1)); (try dsimp only)))
   refine join_strs 200 (sep := Str.ofString "-") (let ⟨n, hn⟩ := hlist6; ⟨_, hn, rfl, _, rfl⟩) hst ?_ ?_ ?_
   · intro y hy
     obtain ⟨q, hq, rfl⟩ := List.mem_map.mp hy
     have := slice_len_le page (some q.1) (some q.2)
     omega
   · rw [List.length_map]
     have h1 := List.length_filter_le (fun q : Int × Int => decide (q.1 < q.2)) (bnd cuts page.length)
     rw [bnd_len] at h1
     have h2 := hgp.cl
     have h3 : (Str.ofString "-").length = 1 := by decide +kernel
     rw [h3]; omega
   intro jt jk
   have hjn := joined_list hgp
   generalize Str.join (Str.ofString "-") _ = jn at hjn ⊢
   have hjl : jn.length ≤ 220 := by rw [len_list, hjn]; exact joined_len hgp
   clear hst
   repeat' (first | ((with_reducible show ((_ : Nat) ≤ _ → _)); intro htk9; (try dsimp only at htk9); revert htk9; intro _) | ((with_reducible show wpAny _ _ (execs (_ :: _) _) _ _ _); refine execs_hidt (by first | omega | (dsimp only; omega)) ?_; intro _ _ htk9; (try dsimp only at htk9); revert htk9; intro _ Qk9 kH9; (try dsimp only)) | ((with_reducible show wpAny _ _ (execs [] _) _ _ _); refine wpAny_execs_nil ?_; (try dsimp only)) | ((first | (k_unfold; (try dsimp only)) | ((with_reducible show wpAny _ _ (execs (_ :: _) _) _ _ _); refine execs_hide ?_; intro Qk9 kH9; (try dsimp only)) | ((with_reducible rename Hid _ _ _ => kH9); first | (refine hid_next kH9 ?_; clear kH9; (try clear Qk9)) | (refine hid_other kH9 (by nofun) ?_; clear kH9; (try clear Qk9)); (try dsimp only)) | ((with_reducible show wpAny _ _ (eval (Expr.Name _ _) (envOfC _ _ _ _ _)) _ _ _); k_dflt (first | refine nmC_L (by exact rfl) (by exact rfl) (by exact rfl) (by assumption) (by exact rfl) ?_ | refine nmC_C (by exact rfl) (by exact rfl) (by exact rfl) (by assumption) (by exact rfl) (by k_mem) (by assumption) ?_ | refine nmC_K (by exact rfl) (by exact rfl) (by exact rfl) (by assumption) (by assumption) (by k_asm) (by k_is) ?_ | refine nmC_B (by exact rfl) (by exact rfl) (by exact rfl) (by assumption) (by assumption) (by k_asm) (by k_is) (by boot_by_name) (by decide) ?_)) | ((with_reducible show wpAny _ _ (eval (Expr.Name _ _) (compEnvC _ _ _ _)) _ _ _); k_dflt (refine cc_cell (by exact rfl) (Fr.keep (by assumption) _ _ (by assumption)) (by assumption) ?_ (by exact rfl) (by exact rfl) (by exact rfl))) | ((with_reducible show wpAny _ _ (eval (Expr.Name _ _) (compEnvC _ _ _ _)) _ _ _); k_dflt (refine cc_blt (by assumption) (by assumption) (by assumption) (by k_is) (by boot_by_name) (by decide) ?_ (by exact rfl) (by exact rfl) (by exact rfl) (by exact rfl) (by exact rfl))) | ((with_reducible show wpAny _ _ (call (Value.builtin "chr") [Value.int _ _]) _ _ _); k_dflt (refine chr_one (by assumption) ?_)) | ((with_reducible show wpAny _ _ (call (Value.builtin "ord") [Value.str _ _]) _ _ _); k_dflt (refine' ord_one ?_)) | ((with_reducible show wpAny _ _ (subscriptTail _ _ (Value.ref _) (Value.int _ _)) _ _ _); k_dflt (refine heap_item (Heap.IsList.at (by assumption) (fun o e => Fr.keep (by assumption) _ _ e)) (by omega) (by omega) (by assumption) ?_ (by exact rfl))) | ((with_reducible show wpAny _ _ (binaryOp Operator.Add (Value.str _ _) (Value.str _ _)) _ _ _); k_dflt (refine SB.add ?_ (add_fits (by walk_at "m_len") (by walk_at "m_len") (by decide +kernel)); intro _ _; (try dsimp only))) | ((with_reducible show wpAny _ _ (call (Value.builtin "len") [Value.str _ _]) _ _ _); k_dflt (refine len_str_ok (Nat.le_trans (by walk_at "m_len") (by decide +kernel)) ?_; (try dsimp only))) | ((with_reducible show wpAny _ _ (call (Value.builtin "list.append") [Value.ref _, _]) _ _ _); k_dflt (refine append_K (by k_asm) (by k_asm) (by k_upd) ?_ (by refine size_ok ?_; (try simp only [List.size_toArray]); omega); k_whole); intro _ _ _; (try k_sweep)) | ((with_reducible show wpAny _ _ (storeName (compEnvC _ _ _ _) _ _) _ _ _); k_dflt (refine cc_store (by assumption) (by assumption) (by exact rfl) (by exact rfl) ?_); intro _ _ _; (try k_sweep)) | ((with_reducible show wpAny _ _ (eval (Expr.Name _ _) (compEnvC _ _ _ _)) _ _ _); k_dflt (refine cc_load (by assumption) (by exact rfl) ?_ (by exact rfl) (by exact rfl) (by exact rfl))) | ((with_reducible show wpAny _ _ _ _ _ _); (fail_if_success (with_reducible first | show wpAny _ _ (exec (Stmt.For _ _ _ _ _) _) _ _ _ | show wpAny _ _ (exec (Stmt.While _ _ _ _) _) _ _ _ | show wpAny _ _ (pyIter _) _ _ _ | show wpAny _ _ (call (Value.builtin "list.pop") _ _) _ _ _ | show wpAny _ _ (call (Value.builtin "str.join") _ _) _ _ _ | show wpAny _ _ (call (Value.builtin "max") _ _) _ _ _ | show wpAny _ _ (setItem _ _ _) _ _ _ | show wpAny _ _ (call (Value.builtin "str.replace") _ _) _ _ _ | show wpAny _ _ (call (Value.builtin "str.split") _ _) _ _ _ | show wpAny _ _ (call (Value.ref _) _ _) _ _ _ | show wpAny _ _ (eval (Expr.ListComp _ _ _ _) _) _ _ _ | show wpAny _ _ (exec (Stmt.Assign _ (Expr.ListComp _ _ _ _) _) _) _ _ _)); first | walk1 | (dsimp only; walk1)) | ((with_reducible show Frag.In _ _ ∧ _); (refine ⟨by k_in, ?_⟩); (try dsimp only [List.nil_append, List.cons_append])) | ((with_reducible show (if _ then _ else _)); walk1)); (try dsimp only)))
   (rename Obj => ojn)
   --CUT
   (rename Fr _ _ _ _ => F13)
   (rename News _ _ _ _ => N13)
   (with_reducible rename (_ = Data.cell (some (Value.str jn jt))) => djn)
   refine wpAny_call (rounds_call (X.keeps F13.keep) (topRead_of (T.keeps F13.keep)) ?_ ?_ rfl (by omega) ?_)
   · show callerA.depth + 1 < 600; decide +kernel
   · show callerA.units + 3 + 100 < cLine; decide +kernel
   intro h14 tk14 ap pvs pk st14 hap hapo hpi
   have np1 := none_ne N13 hap (.tail _ (.head _))
   have np2 := none_ne N13 hap (.tail _ (.tail _ (.head _)))
   have np3 := none_ne N13 hap (.tail _ (.tail _ (.tail _ (.head _))))
   have np4 := none_ne N13 hap (.tail _ (.tail _ (.tail _ (.tail _ (.head _)))))
   have np5 := none_ne N13 hap (.tail _ (.tail _ (.tail _ (.tail _ (.tail _ (.head _))))))
   replace N13 := news_none F13 hap hapo (news_stays N13 st14)
   replace F13 := fr_stays F13 st14
   try dsimp only
   repeat' (first | ((with_reducible show ((_ : Nat) ≤ _ → _)); intro htk9; (try dsimp only at htk9); revert htk9; intro _) | ((with_reducible show wpAny _ _ (execs (_ :: _) _) _ _ _); refine execs_hidt (by first | omega | (dsimp only; omega)) ?_; intro _ _ htk9; (try dsimp only at htk9); revert htk9; intro _ Qk9 kH9; (try dsimp only)) | ((with_reducible show wpAny _ _ (execs [] _) _ _ _); refine wpAny_execs_nil ?_; (try dsimp only)) | ((first | (k_unfold; (try dsimp only)) | ((with_reducible show wpAny _ _ (execs (_ :: _) _) _ _ _); refine execs_hide ?_; intro Qk9 kH9; (try dsimp only)) | ((with_reducible rename Hid _ _ _ => kH9); first | (refine hid_next kH9 ?_; clear kH9; (try clear Qk9)) | (refine hid_other kH9 (by nofun) ?_; clear kH9; (try clear Qk9)); (try dsimp only)) | ((with_reducible show wpAny _ _ (eval (Expr.Name _ _) (envOfC _ _ _ _ _)) _ _ _); k_dflt (first | refine nmC_L (by exact rfl) (by exact rfl) (by exact rfl) (by assumption) (by exact rfl) ?_ | refine nmC_C (by exact rfl) (by exact rfl) (by exact rfl) (by assumption) (by exact rfl) (by k_mem) (by assumption) ?_ | refine nmC_K (by exact rfl) (by exact rfl) (by exact rfl) (by assumption) (by assumption) (by k_asm) (by k_is) ?_ | refine nmC_B (by exact rfl) (by exact rfl) (by exact rfl) (by assumption) (by assumption) (by k_asm) (by k_is) (by boot_by_name) (by decide) ?_)) | ((with_reducible show wpAny _ _ (eval (Expr.Name _ _) (compEnvC _ _ _ _)) _ _ _); k_dflt (refine cc_cell (by exact rfl) (Fr.keep (by assumption) _ _ (by assumption)) (by assumption) ?_ (by exact rfl) (by exact rfl) (by exact rfl))) | ((with_reducible show wpAny _ _ (eval (Expr.Name _ _) (compEnvC _ _ _ _)) _ _ _); k_dflt (refine cc_blt (by assumption) (by assumption) (by assumption) (by k_is) (by boot_by_name) (by decide) ?_ (by exact rfl) (by exact rfl) (by exact rfl) (by exact rfl) (by exact rfl))) | ((with_reducible show wpAny _ _ (call (Value.builtin "chr") [Value.int _ _]) _ _ _); k_dflt (refine chr_one (by assumption) ?_)) | ((with_reducible show wpAny _ _ (call (Value.builtin "ord") [Value.str _ _]) _ _ _); k_dflt (refine' ord_one ?_)) | ((with_reducible show wpAny _ _ (subscriptTail _ _ (Value.ref _) (Value.int _ _)) _ _ _); k_dflt (refine heap_item (Heap.IsList.at (by assumption) (fun o e => Fr.keep (by assumption) _ _ e)) (by omega) (by omega) (by assumption) ?_ (by exact rfl))) | ((with_reducible show wpAny _ _ (binaryOp Operator.Add (Value.str _ _) (Value.str _ _)) _ _ _); k_dflt (refine SB.add ?_ (add_fits (by walk_at "m_len") (by walk_at "m_len") (by decide +kernel)); intro _ _; (try dsimp only))) | ((with_reducible show wpAny _ _ (call (Value.builtin "len") [Value.str _ _]) _ _ _); k_dflt (refine len_str_ok (Nat.le_trans (by walk_at "m_len") (by decide +kernel)) ?_; (try dsimp only))) | ((with_reducible show wpAny _ _ (call (Value.builtin "list.append") [Value.ref _, _]) _ _ _); k_dflt (refine append_K (by k_asm) (by k_asm) (by k_upd) ?_ (by refine size_ok ?_; (try simp only [List.size_toArray]); omega); k_whole); intro _ _ _; (try k_sweep)) | ((with_reducible show wpAny _ _ (storeName (compEnvC _ _ _ _) _ _) _ _ _); k_dflt (refine cc_store (by assumption) (by assumption) (by exact rfl) (by exact rfl) ?_); intro _ _ _; (try k_sweep)) | ((with_reducible show wpAny _ _ (eval (Expr.Name _ _) (compEnvC _ _ _ _)) _ _ _); k_dflt (refine cc_load (by assumption) (by exact rfl) ?_ (by exact rfl) (by exact rfl) (by exact rfl))) | ((with_reducible show wpAny _ _ _ _ _ _); (fail_if_success (with_reducible first | show wpAny _ _ (exec (Stmt.For _ _ _ _ _) _) _ _ _ | show wpAny _ _ (exec (Stmt.While _ _ _ _) _) _ _ _ | show wpAny _ _ (pyIter _) _ _ _ | show wpAny _ _ (call (Value.builtin "list.pop") _ _) _ _ _ | show wpAny _ _ (call (Value.builtin "str.join") _ _) _ _ _ | show wpAny _ _ (call (Value.builtin "max") _ _) _ _ _ | show wpAny _ _ (setItem _ _ _) _ _ _ | show wpAny _ _ (call (Value.builtin "str.replace") _ _) _ _ _ | show wpAny _ _ (call (Value.builtin "str.split") _ _) _ _ _ | show wpAny _ _ (call (Value.ref _) _ _) _ _ _ | show wpAny _ _ (eval (Expr.ListComp _ _ _ _) _) _ _ _ | show wpAny _ _ (exec (Stmt.Assign _ (Expr.ListComp _ _ _ _) _) _) _ _ _)); first | walk1 | (dsimp only; walk1)) | ((with_reducible show Frag.In _ _ ∧ _); (refine ⟨by k_in, ?_⟩); (try dsimp only [List.nil_append, List.cons_append])) | ((with_reducible show (if _ then _ else _)); walk1)); (try dsimp only)))
   (rename Obj => opl)
   rename_i ast h15a la15 h15 F15 N15 _ tk15 htk15 htk15'
   (with_reducible rename (_ = Data.cell (some (Value.ref ap))) => dap)
   have hrl : (rrun jn.cps.toList jn.length).rounds.length = jn.length := by rw [len_list]; exact (run_bounds _ _ (Nat.le_refl _)).2.2.2
   have hj1 : 1 ≤ jn.length := by rw [len_list, hjn]; exact joined_pos hgp
   refine for_inv (h₀ := s.heap) ?_
   repeat' ((first | (k_unfold; (try dsimp only)) | ((with_reducible show wpAny _ _ (execs (_ :: _) _) _ _ _); refine execs_hide ?_; intro Qk9 kH9; (try dsimp only)) | ((with_reducible rename Hid _ _ _ => kH9); first | (refine hid_next kH9 ?_; clear kH9; (try clear Qk9)) | (refine hid_other kH9 (by nofun) ?_; clear kH9; (try clear Qk9)); (try dsimp only)) | ((with_reducible show wpAny _ _ (eval (Expr.Name _ _) (envOfC _ _ _ _ _)) _ _ _); k_dflt (first | refine nmC_L (by exact rfl) (by exact rfl) (by exact rfl) (by assumption) (by exact rfl) ?_ | refine nmC_C (by exact rfl) (by exact rfl) (by exact rfl) (by assumption) (by exact rfl) (by k_mem) (by assumption) ?_ | refine nmC_K (by exact rfl) (by exact rfl) (by exact rfl) (by assumption) (by assumption) (by k_asm) (by k_is) ?_ | refine nmC_B (by exact rfl) (by exact rfl) (by exact rfl) (by assumption) (by assumption) (by k_asm) (by k_is) (by boot_by_name) (by decide) ?_)) | ((with_reducible show wpAny _ _ (eval (Expr.Name _ _) (compEnvC _ _ _ _)) _ _ _); k_dflt (refine cc_cell (by exact rfl) (Fr.keep (by assumption) _ _ (by assumption)) (by assumption) ?_ (by exact rfl) (by exact rfl) (by exact rfl))) | ((with_reducible show wpAny _ _ (eval (Expr.Name _ _) (compEnvC _ _ _ _)) _ _ _); k_dflt (refine cc_blt (by assumption) (by assumption) (by assumption) (by k_is) (by boot_by_name) (by decide) ?_ (by exact rfl) (by exact rfl) (by exact rfl) (by exact rfl) (by exact rfl))) | ((with_reducible show wpAny _ _ (call (Value.builtin "chr") [Value.int _ _]) _ _ _); k_dflt (refine chr_one (by assumption) ?_)) | ((with_reducible show wpAny _ _ (call (Value.builtin "ord") [Value.str _ _]) _ _ _); k_dflt (refine' ord_one ?_)) | ((with_reducible show wpAny _ _ (subscriptTail _ _ (Value.ref _) (Value.int _ _)) _ _ _); k_dflt (refine heap_item (Heap.IsList.at (by assumption) (fun o e => Fr.keep (by assumption) _ _ e)) (by omega) (by omega) (by assumption) ?_ (by exact rfl))) | ((with_reducible show wpAny _ _ (binaryOp Operator.Add (Value.str _ _) (Value.str _ _)) _ _ _); k_dflt (refine SB.add ?_ (add_fits (by walk_at "m_len") (by walk_at "m_len") (by decide +kernel)); intro _ _; (try dsimp only))) | ((with_reducible show wpAny _ _ (call (Value.builtin "len") [Value.str _ _]) _ _ _); k_dflt (refine len_str_ok (Nat.le_trans (by walk_at "m_len") (by decide +kernel)) ?_; (try dsimp only))) | ((with_reducible show wpAny _ _ (call (Value.builtin "list.append") [Value.ref _, _]) _ _ _); k_dflt (refine append_K (by k_asm) (by k_asm) (by k_upd) ?_ (by refine size_ok ?_; (try simp only [List.size_toArray]); omega); k_whole); intro _ _ _; (try k_sweep)) | ((with_reducible show wpAny _ _ (storeName (compEnvC _ _ _ _) _ _) _ _ _); k_dflt (refine cc_store (by assumption) (by assumption) (by exact rfl) (by exact rfl) ?_); intro _ _ _; (try k_sweep)) | ((with_reducible show wpAny _ _ (eval (Expr.Name _ _) (compEnvC _ _ _ _)) _ _ _); k_dflt (refine cc_load (by assumption) (by exact rfl) ?_ (by exact rfl) (by exact rfl) (by exact rfl))) | ((with_reducible show wpAny _ _ _ _ _ _); (fail_if_success (with_reducible first | show wpAny _ _ (exec (Stmt.For _ _ _ _ _) _) _ _ _ | show wpAny _ _ (exec (Stmt.While _ _ _ _) _) _ _ _ | show wpAny _ _ (pyIter _) _ _ _ | show wpAny _ _ (call (Value.builtin "list.pop") _ _) _ _ _ | show wpAny _ _ (call (Value.builtin "str.join") _ _) _ _ _ | show wpAny _ _ (call (Value.builtin "max") _ _) _ _ _ | show wpAny _ _ (setItem _ _ _) _ _ _ | show wpAny _ _ (call (Value.builtin "str.replace") _ _) _ _ _ | show wpAny _ _ (call (Value.builtin "str.split") _ _) _ _ _ | show wpAny _ _ (call (Value.ref _) _ _) _ _ _ | show wpAny _ _ (eval (Expr.ListComp _ _ _ _) _) _ _ _ | show wpAny _ _ (exec (Stmt.Assign _ (Expr.ListComp _ _ _ _) _) _) _ _ _)); first | walk1 | (dsimp only; walk1)) | ((with_reducible show Frag.In _ _ ∧ _); (refine ⟨by k_in, ?_⟩); (try dsimp only [List.nil_append, List.cons_append])) | ((with_reducible show (if _ then _ else _)); walk1)); (try dsimp only))
   refine max_list_N rfl F15 N15 ⟨_, (N15 _ (.tail _ (.head _))).1, rfl, _, rfl⟩ hpi (by unfold asInts; rw [List.length_map, hrl]; exact hj1) ?_
   intro h16 M tM tk16 F16 N16 hM1 hM2
   have hM : ∃ mx : Nat, M = (mx : Int) ∧ mx ≤ jn.length := by
     obtain ⟨r, hr, rfl⟩ := List.mem_map.mp hM1
     exact ⟨r, rfl, (rrun_le _ _).1 r hr⟩
   obtain ⟨mx, rfl, hmx⟩ := hM
   clear hM1 hM2 F15 N15
   try dsimp only
   repeat' ((first | (k_unfold; (try dsimp only)) | ((with_reducible show wpAny _ _ (execs (_ :: _) _) _ _ _); refine execs_hide ?_; intro Qk9 kH9; (try dsimp only)) | ((with_reducible rename Hid _ _ _ => kH9); first | (refine hid_next kH9 ?_; clear kH9; (try clear Qk9)) | (refine hid_other kH9 (by nofun) ?_; clear kH9; (try clear Qk9)); (try dsimp only)) | ((with_reducible show wpAny _ _ (eval (Expr.Name _ _) (envOfC _ _ _ _ _)) _ _ _); k_dflt (first | refine nmC_L (by exact rfl) (by exact rfl) (by exact rfl) (by assumption) (by exact rfl) ?_ | refine nmC_C (by exact rfl) (by exact rfl) (by exact rfl) (by assumption) (by exact rfl) (by k_mem) (by assumption) ?_ | refine nmC_K (by exact rfl) (by exact rfl) (by exact rfl) (by assumption) (by assumption) (by k_asm) (by k_is) ?_ | refine nmC_B (by exact rfl) (by exact rfl) (by exact rfl) (by assumption) (by assumption) (by k_asm) (by k_is) (by boot_by_name) (by decide) ?_)) | ((with_reducible show wpAny _ _ (eval (Expr.Name _ _) (compEnvC _ _ _ _)) _ _ _); k_dflt (refine cc_cell (by exact rfl) (Fr.keep (by assumption) _ _ (by assumption)) (by assumption) ?_ (by exact rfl) (by exact rfl) (by exact rfl))) | ((with_reducible show wpAny _ _ (eval (Expr.Name _ _) (compEnvC _ _ _ _)) _ _ _); k_dflt (refine cc_blt (by assumption) (by assumption) (by assumption) (by k_is) (by boot_by_name) (by decide) ?_ (by exact rfl) (by exact rfl) (by exact rfl) (by exact rfl) (by exact rfl))) | ((with_reducible show wpAny _ _ (call (Value.builtin "chr") [Value.int _ _]) _ _ _); k_dflt (refine chr_one (by assumption) ?_)) | ((with_reducible show wpAny _ _ (call (Value.builtin "ord") [Value.str _ _]) _ _ _); k_dflt (refine' ord_one ?_)) | ((with_reducible show wpAny _ _ (subscriptTail _ _ (Value.ref _) (Value.int _ _)) _ _ _); k_dflt (refine heap_item (Heap.IsList.at (by assumption) (fun o e => Fr.keep (by assumption) _ _ e)) (by omega) (by omega) (by assumption) ?_ (by exact rfl))) | ((with_reducible show wpAny _ _ (binaryOp Operator.Add (Value.str _ _) (Value.str _ _)) _ _ _); k_dflt (refine SB.add ?_ (add_fits (by walk_at "m_len") (by walk_at "m_len") (by decide +kernel)); intro _ _; (try dsimp only))) | ((with_reducible show wpAny _ _ (call (Value.builtin "len") [Value.str _ _]) _ _ _); k_dflt (refine len_str_ok (Nat.le_trans (by walk_at "m_len") (by decide +kernel)) ?_; (try dsimp only))) | ((with_reducible show wpAny _ _ (call (Value.builtin "list.append") [Value.ref _, _]) _ _ _); k_dflt (refine append_K (by k_asm) (by k_asm) (by k_upd) ?_ (by refine size_ok ?_; (try simp only [List.size_toArray]); omega); k_whole); intro _ _ _; (try k_sweep)) | ((with_reducible show wpAny _ _ (storeName (compEnvC _ _ _ _) _ _) _ _ _); k_dflt (refine cc_store (by assumption) (by assumption) (by exact rfl) (by exact rfl) ?_); intro _ _ _; (try k_sweep)) | ((with_reducible show wpAny _ _ (eval (Expr.Name _ _) (compEnvC _ _ _ _)) _ _ _); k_dflt (refine cc_load (by assumption) (by exact rfl) ?_ (by exact rfl) (by exact rfl) (by exact rfl))) | ((with_reducible show wpAny _ _ _ _ _ _); (fail_if_success (with_reducible first | show wpAny _ _ (exec (Stmt.For _ _ _ _ _) _) _ _ _ | show wpAny _ _ (exec (Stmt.While _ _ _ _) _) _ _ _ | show wpAny _ _ (pyIter _) _ _ _ | show wpAny _ _ (call (Value.builtin "list.pop") _ _) _ _ _ | show wpAny _ _ (call (Value.builtin "str.join") _ _) _ _ _ | show wpAny _ _ (call (Value.builtin "max") _ _) _ _ _ | show wpAny _ _ (setItem _ _ _) _ _ _ | show wpAny _ _ (call (Value.builtin "str.replace") _ _) _ _ _ | show wpAny _ _ (call (Value.builtin "str.split") _ _) _ _ _ | show wpAny _ _ (call (Value.ref _) _ _) _ _ _ | show wpAny _ _ (eval (Expr.ListComp _ _ _ _) _) _ _ _ | show wpAny _ _ (exec (Stmt.Assign _ (Expr.ListComp _ _ _ _) _) _) _ _ _)); first | walk1 | (dsimp only; walk1)) | ((with_reducible show Frag.In _ _ ∧ _); (refine ⟨by k_in, ?_⟩); (try dsimp only [List.nil_append, List.cons_append])) | ((with_reducible show (if _ then _ else _)); walk1)); (try dsimp only))
   rename_i h17 tk17 t17 u17 v17 hrg F17 N17 _
   refine iter_range (n := mx + 1) (fun i g m₁ news₁ => ∃ sts ss sk otc, (∀ q ∈ [(Str.ofString "stages", Value.ref ast), (Str.ofString "total_sum", Value.int ns.sum tt1), (Str.ofString "data", Value.bytes (List.map UInt8.ofNat (dataOf page.cps.toList)).toArray t4), (Str.ofString "bounds", Value.ref D10)], m₁ q.1 = some q.2) ∧
     news₁ = (ast, W.listOf sts.toArray sk) :: (ap, W.listOf pvs.toArray pk) :: (D10, W.listOf bvs.toArray k10) :: (s.heap.objs.size + 1 + 1 + 1 + 1 + 1, o1) :: (s.heap.objs.size + 1 + 1 + 1 + 1, otc) :: (s.heap.objs.size + 1 + 1 + 1, opl) :: (s.heap.objs.size + 1 + 1, ojn) :: (s.heap.objs.size + 1, opg) :: tl ∧
     (∃ d, otc.data = .cell d) ∧ StrsAre sts ss ∧ ss.length = i ∧ (∀ (j : Nat) (t : Str), ss[j]? = some t → t.cps.toList = stage jn.cps.toList (rrun jn.cps.toList jn.length).rounds (j + 1)) ∧ g = s.gens) rfl hrg ?_ ?_ F17 N17 ?_ ?_ ?_
   · refine range_small (by decide) ?_ ?_ (by decide) <;> omega
   · unfold Builtin.Range.rangeSize; rw [if_pos (by decide)]; split <;> omega
   · exact ⟨[], [], 0, _, by kst_all, rfl, ⟨_, dc2⟩, .nil, rfl, fun j t h => by simp at h, rfl⟩
   · rintro I i v m₁ news₁ g h tk oI hi ⟨t, rfl⟩ ⟨sts, ss, sk, otc, hm, rfl, ⟨dt, hotc⟩, hss, hsl, hst, rfl⟩ hoff htk F₁ N₁
     replace F₁ := fr_kst _ F₁ hm
     simp only [kstB] at F₁
     change Fr s.heap s.heap.objs.size h _ at F₁
     change News s.heap s.heap.objs.size h _ at N₁
     have hstl := strs_len hss
     have hI4 := neN (hoff _ (.tail _ (.tail _ (.tail _ (.tail _ (.head _))))))
     have hIa := neN (hoff _ (.head _))
     try dsimp only
     repeat' (first | ((with_reducible show ((_ : Nat) ≤ _ → _)); intro htk9; (try dsimp only at htk9); revert htk9; intro _) | ((with_reducible show wpAny _ _ (execs (_ :: _) _) _ _ _); refine execs_hidt (by first | omega | (dsimp only; omega)) ?_; intro _ _ htk9; (try dsimp only at htk9); revert htk9; intro _ Qk9 kH9; (try dsimp only)) | ((with_reducible show wpAny _ _ (execs [] _) _ _ _); refine wpAny_execs_nil ?_; (try dsimp only)) | ((first | (k_unfold; (try dsimp only)) | ((with_reducible show wpAny _ _ (execs (_ :: _) _) _ _ _); refine execs_hide ?_; intro Qk9 kH9; (try dsimp only)) | ((with_reducible rename Hid _ _ _ => kH9); first | (refine hid_next kH9 ?_; clear kH9; (try clear Qk9)) | (refine hid_other kH9 (by nofun) ?_; clear kH9; (try clear Qk9)); (try dsimp only)) | ((with_reducible show wpAny _ _ (eval (Expr.Name _ _) (envOfC _ _ _ _ _)) _ _ _); k_dflt (first | refine nmC_L (by exact rfl) (by exact rfl) (by exact rfl) (by assumption) (by exact rfl) ?_ | refine nmC_C (by exact rfl) (by exact rfl) (by exact rfl) (by assumption) (by exact rfl) (by k_mem) (by assumption) ?_ | refine nmC_K (by exact rfl) (by exact rfl) (by exact rfl) (by assumption) (by assumption) (by k_asm) (by k_is) ?_ | refine nmC_B (by exact rfl) (by exact rfl) (by exact rfl) (by assumption) (by assumption) (by k_asm) (by k_is) (by boot_by_name) (by decide) ?_)) | ((with_reducible show wpAny _ _ (eval (Expr.Name _ _) (compEnvC _ _ _ _)) _ _ _); k_dflt (refine cc_cell (by exact rfl) (Fr.keep (by assumption) _ _ (by assumption)) (by assumption) ?_ (by exact rfl) (by exact rfl) (by exact rfl))) | ((with_reducible show wpAny _ _ (eval (Expr.Name _ _) (compEnvC _ _ _ _)) _ _ _); k_dflt (refine cc_blt (by assumption) (by assumption) (by assumption) (by k_is) (by boot_by_name) (by decide) ?_ (by exact rfl) (by exact rfl) (by exact rfl) (by exact rfl) (by exact rfl))) | ((with_reducible show wpAny _ _ (call (Value.builtin "chr") [Value.int _ _]) _ _ _); k_dflt (refine chr_one (by assumption) ?_)) | ((with_reducible show wpAny _ _ (call (Value.builtin "ord") [Value.str _ _]) _ _ _); k_dflt (refine' ord_one ?_)) | ((with_reducible show wpAny _ _ (subscriptTail _ _ (Value.ref _) (Value.int _ _)) _ _ _); k_dflt (refine heap_item (Heap.IsList.at (by assumption) (fun o e => Fr.keep (by assumption) _ _ e)) (by omega) (by omega) (by assumption) ?_ (by exact rfl))) | ((with_reducible show wpAny _ _ (binaryOp Operator.Add (Value.str _ _) (Value.str _ _)) _ _ _); k_dflt (refine SB.add ?_ (add_fits (by walk_at "m_len") (by walk_at "m_len") (by decide +kernel)); intro _ _; (try dsimp only))) | ((with_reducible show wpAny _ _ (call (Value.builtin "len") [Value.str _ _]) _ _ _); k_dflt (refine len_str_ok (Nat.le_trans (by walk_at "m_len") (by decide +kernel)) ?_; (try dsimp only))) | ((with_reducible show wpAny _ _ (call (Value.builtin "list.append") [Value.ref _, _]) _ _ _); k_dflt (refine append_K (by k_asm) (by k_asm) (by k_upd) ?_ (by refine size_ok ?_; (try simp only [List.size_toArray]); omega); k_whole); intro _ _ _; (try k_sweep)) | ((with_reducible show wpAny _ _ (storeName (compEnvC _ _ _ _) _ _) _ _ _); k_dflt (refine cc_store (by assumption) (by assumption) (by exact rfl) (by exact rfl) ?_); intro _ _ _; (try k_sweep)) | ((with_reducible show wpAny _ _ (eval (Expr.Name _ _) (compEnvC _ _ _ _)) _ _ _); k_dflt (refine cc_load (by assumption) (by exact rfl) ?_ (by exact rfl) (by exact rfl) (by exact rfl))) | ((with_reducible show wpAny _ _ _ _ _ _); (fail_if_success (with_reducible first | show wpAny _ _ (exec (Stmt.For _ _ _ _ _) _) _ _ _ | show wpAny _ _ (exec (Stmt.While _ _ _ _) _) _ _ _ | show wpAny _ _ (pyIter _) _ _ _ | show wpAny _ _ (call (Value.builtin "list.pop") _ _) _ _ _ | show wpAny _ _ (call (Value.builtin "str.join") _ _) _ _ _ | show wpAny _ _ (call (Value.builtin "max") _ _) _ _ _ | show wpAny _ _ (setItem _ _ _) _ _ _ | show wpAny _ _ (call (Value.builtin "str.replace") _ _) _ _ _ | show wpAny _ _ (call (Value.builtin "str.split") _ _) _ _ _ | show wpAny _ _ (call (Value.ref _) _ _) _ _ _ | show wpAny _ _ (eval (Expr.ListComp _ _ _ _) _) _ _ _ | show wpAny _ _ (exec (Stmt.Assign _ (Expr.ListComp _ _ _ _) _) _) _ _ _)); first | walk1 | (dsimp only; walk1)) | ((with_reducible show Frag.In _ _ ∧ _); (refine ⟨by k_in, ?_⟩); (try dsimp only [List.nil_append, List.cons_append])) | ((with_reducible show (if _ then _ else _)); walk1)); (try dsimp only)))
     (rename Obj => ot2)
     (rename Fr _ _ _ _ => F2)
     (rename News _ _ _ _ => N2)
     (with_reducible rename (ot2.data = _) => dot2)
     rw [show (1 + (i : Int) * 1) = ((i + 1 : Nat) : Int) by omega] at dot2
     refine noE_mono (comp_eval (by exact rfl) (by decide) (by exact rfl) (by decide) ?_)
     repeat' ((first | (k_unfold; (try dsimp only)) | ((with_reducible show wpAny _ _ (execs (_ :: _) _) _ _ _); refine execs_hide ?_; intro Qk9 kH9; (try dsimp only)) | ((with_reducible rename Hid _ _ _ => kH9); first | (refine hid_next kH9 ?_; clear kH9; (try clear Qk9)) | (refine hid_other kH9 (by nofun) ?_; clear kH9; (try clear Qk9)); (try dsimp only)) | ((with_reducible show wpAny _ _ (eval (Expr.Name _ _) (envOfC _ _ _ _ _)) _ _ _); k_dflt (first | refine nmC_L (by exact rfl) (by exact rfl) (by exact rfl) (by assumption) (by exact rfl) ?_ | refine nmC_C (by exact rfl) (by exact rfl) (by exact rfl) (by assumption) (by exact rfl) (by k_mem) (by assumption) ?_ | refine nmC_K (by exact rfl) (by exact rfl) (by exact rfl) (by assumption) (by assumption) (by k_asm) (by k_is) ?_ | refine nmC_B (by exact rfl) (by exact rfl) (by exact rfl) (by assumption) (by assumption) (by k_asm) (by k_is) (by boot_by_name) (by decide) ?_)) | ((with_reducible show wpAny _ _ (eval (Expr.Name _ _) (compEnvC _ _ _ _)) _ _ _); k_dflt (refine cc_cell (by exact rfl) (Fr.keep (by assumption) _ _ (by assumption)) (by assumption) ?_ (by exact rfl) (by exact rfl) (by exact rfl))) | ((with_reducible show wpAny _ _ (eval (Expr.Name _ _) (compEnvC _ _ _ _)) _ _ _); k_dflt (refine cc_blt (by assumption) (by assumption) (by assumption) (by k_is) (by boot_by_name) (by decide) ?_ (by exact rfl) (by exact rfl) (by exact rfl) (by exact rfl) (by exact rfl))) | ((with_reducible show wpAny _ _ (call (Value.builtin "chr") [Value.int _ _]) _ _ _); k_dflt (refine chr_one (by assumption) ?_)) | ((with_reducible show wpAny _ _ (call (Value.builtin "ord") [Value.str _ _]) _ _ _); k_dflt (refine' ord_one ?_)) | ((with_reducible show wpAny _ _ (subscriptTail _ _ (Value.ref _) (Value.int _ _)) _ _ _); k_dflt (refine heap_item (Heap.IsList.at (by assumption) (fun o e => Fr.keep (by assumption) _ _ e)) (by omega) (by omega) (by assumption) ?_ (by exact rfl))) | ((with_reducible show wpAny _ _ (binaryOp Operator.Add (Value.str _ _) (Value.str _ _)) _ _ _); k_dflt (refine SB.add ?_ (add_fits (by walk_at "m_len") (by walk_at "m_len") (by decide +kernel)); intro _ _; (try dsimp only))) | ((with_reducible show wpAny _ _ (call (Value.builtin "len") [Value.str _ _]) _ _ _); k_dflt (refine len_str_ok (Nat.le_trans (by walk_at "m_len") (by decide +kernel)) ?_; (try dsimp only))) | ((with_reducible show wpAny _ _ (call (Value.builtin "list.append") [Value.ref _, _]) _ _ _); k_dflt (refine append_K (by k_asm) (by k_asm) (by k_upd) ?_ (by refine size_ok ?_; (try simp only [List.size_toArray]); omega); k_whole); intro _ _ _; (try k_sweep)) | ((with_reducible show wpAny _ _ (storeName (compEnvC _ _ _ _) _ _) _ _ _); k_dflt (refine cc_store (by assumption) (by assumption) (by exact rfl) (by exact rfl) ?_); intro _ _ _; (try k_sweep)) | ((with_reducible show wpAny _ _ (eval (Expr.Name _ _) (compEnvC _ _ _ _)) _ _ _); k_dflt (refine cc_load (by assumption) (by exact rfl) ?_ (by exact rfl) (by exact rfl) (by exact rfl))) | ((with_reducible show wpAny _ _ _ _ _ _); (fail_if_success (with_reducible first | show wpAny _ _ (exec (Stmt.For _ _ _ _ _) _) _ _ _ | show wpAny _ _ (exec (Stmt.While _ _ _ _) _) _ _ _ | show wpAny _ _ (pyIter _) _ _ _ | show wpAny _ _ (call (Value.builtin "list.pop") _ _) _ _ _ | show wpAny _ _ (call (Value.builtin "str.join") _ _) _ _ _ | show wpAny _ _ (call (Value.builtin "max") _ _) _ _ _ | show wpAny _ _ (setItem _ _ _) _ _ _ | show wpAny _ _ (call (Value.builtin "str.replace") _ _) _ _ _ | show wpAny _ _ (call (Value.builtin "str.split") _ _) _ _ _ | show wpAny _ _ (call (Value.ref _) _ _) _ _ _ | show wpAny _ _ (eval (Expr.ListComp _ _ _ _) _) _ _ _ | show wpAny _ _ (exec (Stmt.Assign _ (Expr.ListComp _ _ _ _) _) _) _ _ _)); first | walk1 | (dsimp only; walk1)) | ((with_reducible show Frag.In _ _ ∧ _); (refine ⟨by k_in, ?_⟩); (try dsimp only [List.nil_append, List.cons_append])) | ((with_reducible show (if _ then _ else _)); walk1)); (try dsimp only))
     rename_i h3 tk3 t3 u3 v3 hrg3 F3 N3 _
     have hc2 := (N3 _ (.tail _ (.tail _ (.tail _ (.tail _ (.tail _ (.tail _ (.tail _ (.head _))))))))).1
     have hc3 := (N3 _ (.tail _ (.tail _ (.tail _ (.tail _ (.tail _ (.tail _ (.head _)))))))).1
     have hc4 := (N3 _ (.tail _ (.tail _ (.tail _ (.tail _ (.tail _ (.head _))))))).1
     have hpl3 : h3.IsList ap pvs.toArray := ⟨_, (N3 _ (.tail _ (.tail _ (.head _)))).1, rfl, _, rfl⟩
     try dsimp only at hc2 hc3 hc4
     refine compi_range (n := jn.length) (fun k r objs _ => objs = [] ∧ (if keepP (rrun jn.cps.toList jn.length).rounds (i + 1) k = true then ∃ t, r = some (.str (Txt.item jn (k : Int)) t) else r = none)) rfl hrg3 ?_ ?_ ?_ ?_ ?_
     · refine range_small (by decide) ?_ ?_ (by decide) <;> omega
     · unfold Builtin.Range.rangeSize; rw [if_pos (by decide)]; split <;> omega
     · rw [sizeLine_eq]; omega
     · rintro C k v hh tk' m₂ olds hk ⟨t', rfl⟩ htk2 F₂ N₂
       rw [show (0 + (k : Int) * 1) = (k : Int) by omega]
       have hkr : k < (rrun jn.cps.toList jn.length).rounds.length := by rw [hrl]; exact hk
       obtain ⟨tt, hx⟩ := ints_at hpi (i := k) (x := (((rrun jn.cps.toList jn.length).rounds.getD k 0 : Nat) : Int)) (by unfold asInts; rw [List.getElem?_map, List.getD_eq_getElem?_getD, List.getElem?_eq_getElem hkr]; rfl)
       have hx' : pvs[((k : Int)).toNat]? = some (.int (((rrun jn.cps.toList jn.length).rounds.getD k 0 : Nat) : Int) tt) := by rw [Int.toNat_natCast]; exact hx
       generalize hrk : (rrun jn.cps.toList jn.length).rounds.getD k 0 = rk at hx hx'
       clear F3 N3 hoff hst hm hss
       have hkp : keepP (rrun jn.cps.toList jn.length).rounds (i + 1) k = (rk == 0 || decide (i + 1 < rk)) := by unfold keepP; rw [hrk]
       try dsimp only
       rw [hkp]
       repeat' ((first | (k_unfold; (try dsimp only)) | ((with_reducible show wpAny _ _ (execs (_ :: _) _) _ _ _); refine execs_hide ?_; intro Qk9 kH9; (try dsimp only)) | ((with_reducible rename Hid _ _ _ => kH9); first | (refine hid_next kH9 ?_; clear kH9; (try clear Qk9)) | (refine hid_other kH9 (by nofun) ?_; clear kH9; (try clear Qk9)); (try dsimp only)) | ((with_reducible show wpAny _ _ (eval (Expr.Name _ _) (envOfC _ _ _ _ _)) _ _ _); k_dflt (first | refine nmC_L (by exact rfl) (by exact rfl) (by exact rfl) (by assumption) (by exact rfl) ?_ | refine nmC_C (by exact rfl) (by exact rfl) (by exact rfl) (by assumption) (by exact rfl) (by k_mem) (by assumption) ?_ | refine nmC_K (by exact rfl) (by exact rfl) (by exact rfl) (by assumption) (by assumption) (by k_asm) (by k_is) ?_ | refine nmC_B (by exact rfl) (by exact rfl) (by exact rfl) (by assumption) (by assumption) (by k_asm) (by k_is) (by boot_by_name) (by decide) ?_)) | ((with_reducible show wpAny _ _ (eval (Expr.Name _ _) (compEnvC _ _ _ _)) _ _ _); k_dflt (refine cc_cell (by exact rfl) (Fr.keep (by assumption) _ _ (by assumption)) (by assumption) ?_ (by exact rfl) (by exact rfl) (by exact rfl))) | ((with_reducible show wpAny _ _ (eval (Expr.Name _ _) (compEnvC _ _ _ _)) _ _ _); k_dflt (refine cc_blt (by assumption) (by assumption) (by assumption) (by k_is) (by boot_by_name) (by decide) ?_ (by exact rfl) (by exact rfl) (by exact rfl) (by exact rfl) (by exact rfl))) | ((with_reducible show wpAny _ _ (call (Value.builtin "chr") [Value.int _ _]) _ _ _); k_dflt (refine chr_one (by assumption) ?_)) | ((with_reducible show wpAny _ _ (call (Value.builtin "ord") [Value.str _ _]) _ _ _); k_dflt (refine' ord_one ?_)) | ((with_reducible show wpAny _ _ (subscriptTail _ _ (Value.ref _) (Value.int _ _)) _ _ _); k_dflt (refine heap_item (Heap.IsList.at (by assumption) (fun o e => Fr.keep (by assumption) _ _ e)) (by omega) (by omega) (by assumption) ?_ (by exact rfl))) | ((with_reducible show wpAny _ _ (binaryOp Operator.Add (Value.str _ _) (Value.str _ _)) _ _ _); k_dflt (refine SB.add ?_ (add_fits (by walk_at "m_len") (by walk_at "m_len") (by decide +kernel)); intro _ _; (try dsimp only))) | ((with_reducible show wpAny _ _ (call (Value.builtin "len") [Value.str _ _]) _ _ _); k_dflt (refine len_str_ok (Nat.le_trans (by walk_at "m_len") (by decide +kernel)) ?_; (try dsimp only))) | ((with_reducible show wpAny _ _ (call (Value.builtin "list.append") [Value.ref _, _]) _ _ _); k_dflt (refine append_K (by k_asm) (by k_asm) (by k_upd) ?_ (by refine size_ok ?_; (try simp only [List.size_toArray]); omega); k_whole); intro _ _ _; (try k_sweep)) | ((with_reducible show wpAny _ _ (storeName (compEnvC _ _ _ _) _ _) _ _ _); k_dflt (refine cc_store (by assumption) (by assumption) (by exact rfl) (by exact rfl) ?_); intro _ _ _; (try k_sweep)) | ((with_reducible show wpAny _ _ (eval (Expr.Name _ _) (compEnvC _ _ _ _)) _ _ _); k_dflt (refine cc_load (by assumption) (by exact rfl) ?_ (by exact rfl) (by exact rfl) (by exact rfl))) | ((with_reducible show wpAny _ _ _ _ _ _); (fail_if_success (with_reducible first | show wpAny _ _ (exec (Stmt.For _ _ _ _ _) _) _ _ _ | show wpAny _ _ (exec (Stmt.While _ _ _ _) _) _ _ _ | show wpAny _ _ (pyIter _) _ _ _ | show wpAny _ _ (call (Value.builtin "list.pop") _ _) _ _ _ | show wpAny _ _ (call (Value.builtin "str.join") _ _) _ _ _ | show wpAny _ _ (call (Value.builtin "max") _ _) _ _ _ | show wpAny _ _ (setItem _ _ _) _ _ _ | show wpAny _ _ (call (Value.builtin "str.replace") _ _) _ _ _ | show wpAny _ _ (call (Value.builtin "str.split") _ _) _ _ _ | show wpAny _ _ (call (Value.ref _) _ _) _ _ _ | show wpAny _ _ (eval (Expr.ListComp _ _ _ _) _) _ _ _ | show wpAny _ _ (exec (Stmt.Assign _ (Expr.ListComp _ _ _ _) _) _) _ _ _)); first | walk1 | (dsimp only; walk1)) | ((with_reducible show Frag.In _ _ ∧ _); (refine ⟨by k_in, ?_⟩); (try dsimp only [List.nil_append, List.cons_append])) | ((with_reducible show (if _ then _ else _)); walk1)); (try dsimp only))
       · exact ⟨_, _, _, [], rfl, ‹Fr _ _ _ _›, ‹News _ _ _ _›, (fun p hp => nomatch hp), rfl, by rw [if_pos (by simp only [Bool.or_eq_true, beq_iff_eq, decide_eq_true_eq]; omega)]; exact ⟨_, rfl⟩⟩
       · exact ⟨_, _, _, [], rfl, ‹Fr _ _ _ _›, ‹News _ _ _ _›, (fun p hp => nomatch hp), rfl, by rw [if_pos (by simp only [Bool.or_eq_true, beq_iff_eq, decide_eq_true_eq]; omega)]; exact ⟨_, rfl⟩⟩
       · exact ⟨_, _, _, [], rfl, ‹Fr _ _ _ _›, ‹News _ _ _ _›, (fun p hp => nomatch hp), rfl, by rw [if_neg (by simp only [Bool.or_eq_true, beq_iff_eq, decide_eq_true_eq]; omega)]⟩
     · intro h6 D6 h7 tk7 rs6 hD6 hle6 hlen6 hEl6 hlist6 hst6 hobj6
       have hpk := picks (f := fun k : Nat => Txt.item jn (k : Int)) (p := keepP (rrun jn.cps.toList jn.length).rounds (i + 1)) hlen6 (fun j r hr => by
         obtain ⟨_, _, _, h2⟩ := hEl6 j r hr
         exact h2)
       try dsimp only
       replace F3 := fr_stays F3 hst6
       replace N3 := news_stays N3 hst6
       clear hEl6 hobj6 hlen6 hc2 hc3 hc4 hpl3
       generalize rs6.filterMap (·.1) = jvs at hpk hlist6
       repeat' ((first | (k_unfold; (try dsimp only)) | ((with_reducible show wpAny _ _ (execs (_ :: _) _) _ _ _); refine execs_hide ?_; intro Qk9 kH9; (try dsimp only)) | ((with_reducible rename Hid _ _ _ => kH9); first | (refine hid_next kH9 ?_; clear kH9; (try clear Qk9)) | (refine hid_other kH9 (by nofun) ?_; clear kH9; (try clear Qk9)); (try dsimp only)) | ((with_reducible show wpAny _ _ (eval (Expr.Name _ _) (envOfC _ _ _ _ _)) _ _ _); k_dflt (first | refine nmC_L (by exact rfl) (by exact rfl) (by exact rfl) (by assumption) (by exact rfl) ?_ | refine nmC_C (by exact rfl) (by exact rfl) (by exact rfl) (by assumption) (by exact rfl) (by k_mem) (by assumption) ?_ | refine nmC_K (by exact rfl) (by exact rfl) (by exact rfl) (by assumption) (by assumption) (by k_asm) (by k_is) ?_ | refine nmC_B (by exact rfl) (by exact rfl) (by exact rfl) (by assumption) (by assumption) (by k_asm) (by k_is) (by boot_by_name) (by decide) ?_)) | ((with_reducible show wpAny _ _ (eval (Expr.Name _ _) (compEnvC _ _ _ _)) _ _ _); k_dflt (refine cc_cell (by exact rfl) (Fr.keep (by assumption) _ _ (by assumption)) (by assumption) ?_ (by exact rfl) (by exact rfl) (by exact rfl))) | ((with_reducible show wpAny _ _ (eval (Expr.Name _ _) (compEnvC _ _ _ _)) _ _ _); k_dflt (refine cc_blt (by assumption) (by assumption) (by assumption) (by k_is) (by boot_by_name) (by decide) ?_ (by exact rfl) (by exact rfl) (by exact rfl) (by exact rfl) (by exact rfl))) | ((with_reducible show wpAny _ _ (call (Value.builtin "chr") [Value.int _ _]) _ _ _); k_dflt (refine chr_one (by assumption) ?_)) | ((with_reducible show wpAny _ _ (call (Value.builtin "ord") [Value.str _ _]) _ _ _); k_dflt (refine' ord_one ?_)) | ((with_reducible show wpAny _ _ (subscriptTail _ _ (Value.ref _) (Value.int _ _)) _ _ _); k_dflt (refine heap_item (Heap.IsList.at (by assumption) (fun o e => Fr.keep (by assumption) _ _ e)) (by omega) (by omega) (by assumption) ?_ (by exact rfl))) | ((with_reducible show wpAny _ _ (binaryOp Operator.Add (Value.str _ _) (Value.str _ _)) _ _ _); k_dflt (refine SB.add ?_ (add_fits (by walk_at "m_len") (by walk_at "m_len") (by decide +kernel)); intro _ _; (try dsimp only))) | ((with_reducible show wpAny _ _ (call (Value.builtin "len") [Value.str _ _]) _ _ _); k_dflt (refine len_str_ok (Nat.le_trans (by walk_at "m_len") (by decide +kernel)) ?_; (try dsimp only))) | ((with_reducible show wpAny _ _ (call (Value.builtin "list.append") [Value.ref _, _]) _ _ _); k_dflt (refine append_K (by k_asm) (by k_asm) (by k_upd) ?_ (by refine size_ok ?_; (try simp only [List.size_toArray]); omega); k_whole); intro _ _ _; (try k_sweep)) | ((with_reducible show wpAny _ _ (storeName (compEnvC _ _ _ _) _ _) _ _ _); k_dflt (refine cc_store (by assumption) (by assumption) (by exact rfl) (by exact rfl) ?_); intro _ _ _; (try k_sweep)) | ((with_reducible show wpAny _ _ (eval (Expr.Name _ _) (compEnvC _ _ _ _)) _ _ _); k_dflt (refine cc_load (by assumption) (by exact rfl) ?_ (by exact rfl) (by exact rfl) (by exact rfl))) | ((with_reducible show wpAny _ _ _ _ _ _); (fail_if_success (with_reducible first | show wpAny _ _ (exec (Stmt.For _ _ _ _ _) _) _ _ _ | show wpAny _ _ (exec (Stmt.While _ _ _ _) _) _ _ _ | show wpAny _ _ (pyIter _) _ _ _ | show wpAny _ _ (call (Value.builtin "list.pop") _ _) _ _ _ | show wpAny _ _ (call (Value.builtin "str.join") _ _) _ _ _ | show wpAny _ _ (call (Value.builtin "max") _ _) _ _ _ | show wpAny _ _ (setItem _ _ _) _ _ _ | show wpAny _ _ (call (Value.builtin "str.replace") _ _) _ _ _ | show wpAny _ _ (call (Value.builtin "str.split") _ _) _ _ _ | show wpAny _ _ (call (Value.ref _) _ _) _ _ _ | show wpAny _ _ (eval (Expr.ListComp _ _ _ _) _) _ _ _ | show wpAny _ _ (exec (Stmt.Assign _ (Expr.ListComp _ _ _ _) _) _) _ _ _)); first | walk1 | (dsimp only; walk1)) | ((with_reducible show Frag.In _ _ ∧ _); (refine ⟨by k_in, ?_⟩); (try dsimp only [List.nil_append, List.cons_append])) | ((with_reducible show (if _ then _ else _)); walk1)); (try dsimp only))
       refine join_strs 1 (sep := Str.ofString "") (let ⟨n, hn⟩ := hlist6; ⟨_, hn, rfl, _, rfl⟩) hpk ?_ ?_ ?_
       · intro y hy
         obtain ⟨q, hq, rfl⟩ := List.mem_map.mp hy
         exact item_le _ _
       · rw [List.length_map]
         have h1 := List.length_filter_le (keepP (rrun jn.cps.toList jn.length).rounds (i + 1)) (List.range jn.length)
         rw [List.length_range] at h1
         have h3 : (Str.ofString "").length = 0 := by decide +kernel
         rw [h3]; omega
       intro jt jk
       have hsx := stage_text (x := jn) (rounds := (rrun jn.cps.toList jn.length).rounds) (by rw [hrl, len_list]) (i + 1)
       generalize Str.join (Str.ofString "") _ = sx at hsx ⊢
       clear hpk
       try dsimp only
       repeat' ((first | (k_unfold; (try dsimp only)) | ((with_reducible show wpAny _ _ (execs (_ :: _) _) _ _ _); refine execs_hide ?_; intro Qk9 kH9; (try dsimp only)) | ((with_reducible rename Hid _ _ _ => kH9); first | (refine hid_next kH9 ?_; clear kH9; (try clear Qk9)) | (refine hid_other kH9 (by nofun) ?_; clear kH9; (try clear Qk9)); (try dsimp only)) | ((with_reducible show wpAny _ _ (eval (Expr.Name _ _) (envOfC _ _ _ _ _)) _ _ _); k_dflt (first | refine nmC_L (by exact rfl) (by exact rfl) (by exact rfl) (by assumption) (by exact rfl) ?_ | refine nmC_C (by exact rfl) (by exact rfl) (by exact rfl) (by assumption) (by exact rfl) (by k_mem) (by assumption) ?_ | refine nmC_K (by exact rfl) (by exact rfl) (by exact rfl) (by assumption) (by assumption) (by k_asm) (by k_is) ?_ | refine nmC_B (by exact rfl) (by exact rfl) (by exact rfl) (by assumption) (by assumption) (by k_asm) (by k_is) (by boot_by_name) (by decide) ?_)) | ((with_reducible show wpAny _ _ (eval (Expr.Name _ _) (compEnvC _ _ _ _)) _ _ _); k_dflt (refine cc_cell (by exact rfl) (Fr.keep (by assumption) _ _ (by assumption)) (by assumption) ?_ (by exact rfl) (by exact rfl) (by exact rfl))) | ((with_reducible show wpAny _ _ (eval (Expr.Name _ _) (compEnvC _ _ _ _)) _ _ _); k_dflt (refine cc_blt (by assumption) (by assumption) (by assumption) (by k_is) (by boot_by_name) (by decide) ?_ (by exact rfl) (by exact rfl) (by exact rfl) (by exact rfl) (by exact rfl))) | ((with_reducible show wpAny _ _ (call (Value.builtin "chr") [Value.int _ _]) _ _ _); k_dflt (refine chr_one (by assumption) ?_)) | ((with_reducible show wpAny _ _ (call (Value.builtin "ord") [Value.str _ _]) _ _ _); k_dflt (refine' ord_one ?_)) | ((with_reducible show wpAny _ _ (subscriptTail _ _ (Value.ref _) (Value.int _ _)) _ _ _); k_dflt (refine heap_item (Heap.IsList.at (by assumption) (fun o e => Fr.keep (by assumption) _ _ e)) (by omega) (by omega) (by assumption) ?_ (by exact rfl))) | ((with_reducible show wpAny _ _ (binaryOp Operator.Add (Value.str _ _) (Value.str _ _)) _ _ _); k_dflt (refine SB.add ?_ (add_fits (by walk_at "m_len") (by walk_at "m_len") (by decide +kernel)); intro _ _; (try dsimp only))) | ((with_reducible show wpAny _ _ (call (Value.builtin "len") [Value.str _ _]) _ _ _); k_dflt (refine len_str_ok (Nat.le_trans (by walk_at "m_len") (by decide +kernel)) ?_; (try dsimp only))) | ((with_reducible show wpAny _ _ (call (Value.builtin "list.append") [Value.ref _, _]) _ _ _); k_dflt (refine append_K (by k_asm) (by k_asm) (by k_upd) ?_ (by refine size_ok ?_; (try simp only [List.size_toArray]); omega); k_whole); intro _ _ _; (try k_sweep)) | ((with_reducible show wpAny _ _ (storeName (compEnvC _ _ _ _) _ _) _ _ _); k_dflt (refine cc_store (by assumption) (by assumption) (by exact rfl) (by exact rfl) ?_); intro _ _ _; (try k_sweep)) | ((with_reducible show wpAny _ _ (eval (Expr.Name _ _) (compEnvC _ _ _ _)) _ _ _); k_dflt (refine cc_load (by assumption) (by exact rfl) ?_ (by exact rfl) (by exact rfl) (by exact rfl))) | ((with_reducible show wpAny _ _ _ _ _ _); (fail_if_success (with_reducible first | show wpAny _ _ (exec (Stmt.For _ _ _ _ _) _) _ _ _ | show wpAny _ _ (exec (Stmt.While _ _ _ _) _) _ _ _ | show wpAny _ _ (pyIter _) _ _ _ | show wpAny _ _ (call (Value.builtin "list.pop") _ _) _ _ _ | show wpAny _ _ (call (Value.builtin "str.join") _ _) _ _ _ | show wpAny _ _ (call (Value.builtin "max") _ _) _ _ _ | show wpAny _ _ (setItem _ _ _) _ _ _ | show wpAny _ _ (call (Value.builtin "str.replace") _ _) _ _ _ | show wpAny _ _ (call (Value.builtin "str.split") _ _) _ _ _ | show wpAny _ _ (call (Value.ref _) _ _) _ _ _ | show wpAny _ _ (eval (Expr.ListComp _ _ _ _) _) _ _ _ | show wpAny _ _ (exec (Stmt.Assign _ (Expr.ListComp _ _ _ _) _) _) _ _ _)); first | walk1 | (dsimp only; walk1)) | ((with_reducible show Frag.In _ _ ∧ _); (refine ⟨by k_in, ?_⟩); (try dsimp only [List.nil_append, List.cons_append])) | ((with_reducible show (if _ then _ else _)); walk1)); (try dsimp only))
       (rename Fr _ _ _ _ => F9)
       (rename News _ _ _ _ => N9)
       simp only [List.push_toArray] at N9
       exact ⟨_, _, _, _, _, rfl, F9, N9, by exact off_map (by rfl) hoff, sts ++ [.str sx jt], ss ++ [sx], _, ot2, by kst_all, rfl, ⟨_, dot2⟩, StrsAre.append' hss (.cons _ _ .nil), by rw [List.length_append, hsl]; rfl, snoc_all hsl hst hsx, rfl⟩
   intro h18 tk18 g18 m18 news18 hle18 F18 N18 hJ
   obtain ⟨sts, ss, sk, otc, hm18, rfl, ⟨dt, hotc⟩, hss, hsl, hst, rfl⟩ := hJ
   replace F18 := fr_kst _ F18 hm18
   simp only [kstB] at F18
   change Fr s.heap s.heap.objs.size h18 _ at F18
   change News s.heap s.heap.objs.size h18 _ at N18
   clear hm18 hm10 F17 N17
   try dsimp only at hle18
   try dsimp only
   (first | (k_unfold; (try dsimp only)) | ((with_reducible show wpAny _ _ (execs (_ :: _) _) _ _ _); refine execs_hide ?_; intro Qk9 kH9; (try dsimp only)) | ((with_reducible rename Hid _ _ _ => kH9); first | (refine hid_next kH9 ?_; clear kH9; (try clear Qk9)) | (refine hid_other kH9 (by nofun) ?_; clear kH9; (try clear Qk9)); (try dsimp only)) | ((with_reducible show wpAny _ _ (eval (Expr.Name _ _) (envOfC _ _ _ _ _)) _ _ _); k_dflt (first | refine nmC_L (by exact rfl) (by exact rfl) (by exact rfl) (by assumption) (by exact rfl) ?_ | refine nmC_C (by exact rfl) (by exact rfl) (by exact rfl) (by assumption) (by exact rfl) (by k_mem) (by assumption) ?_ | refine nmC_K (by exact rfl) (by exact rfl) (by exact rfl) (by assumption) (by assumption) (by k_asm) (by k_is) ?_ | refine nmC_B (by exact rfl) (by exact rfl) (by exact rfl) (by assumption) (by assumption) (by k_asm) (by k_is) (by boot_by_name) (by decide) ?_)) | ((with_reducible show wpAny _ _ (eval (Expr.Name _ _) (compEnvC _ _ _ _)) _ _ _); k_dflt (refine cc_cell (by exact rfl) (Fr.keep (by assumption) _ _ (by assumption)) (by assumption) ?_ (by exact rfl) (by exact rfl) (by exact rfl))) | ((with_reducible show wpAny _ _ (eval (Expr.Name _ _) (compEnvC _ _ _ _)) _ _ _); k_dflt (refine cc_blt (by assumption) (by assumption) (by assumption) (by k_is) (by boot_by_name) (by decide) ?_ (by exact rfl) (by exact rfl) (by exact rfl) (by exact rfl) (by exact rfl))) | ((with_reducible show wpAny _ _ (call (Value.builtin "chr") [Value.int _ _]) _ _ _); k_dflt (refine chr_one (by assumption) ?_)) | ((with_reducible show wpAny _ _ (call (Value.builtin "ord") [Value.str _ _]) _ _ _); k_dflt (refine' ord_one ?_)) | ((with_reducible show wpAny _ _ (subscriptTail _ _ (Value.ref _) (Value.int _ _)) _ _ _); k_dflt (refine heap_item (Heap.IsList.at (by assumption) (fun o e => Fr.keep (by assumption) _ _ e)) (by omega) (by omega) (by assumption) ?_ (by exact rfl))) | ((with_reducible show wpAny _ _ (binaryOp Operator.Add (Value.str _ _) (Value.str _ _)) _ _ _); k_dflt (refine SB.add ?_ (add_fits (by walk_at "m_len") (by walk_at "m_len") (by decide +kernel)); intro _ _; (try dsimp only))) | ((with_reducible show wpAny _ _ (call (Value.builtin "len") [Value.str _ _]) _ _ _); k_dflt (refine len_str_ok (Nat.le_trans (by walk_at "m_len") (by decide +kernel)) ?_; (try dsimp only))) | ((with_reducible show wpAny _ _ (call (Value.builtin "list.append") [Value.ref _, _]) _ _ _); k_dflt (refine append_K (by k_asm) (by k_asm) (by k_upd) ?_ (by refine size_ok ?_; (try simp only [List.size_toArray]); omega); k_whole); intro _ _ _; (try k_sweep)) | ((with_reducible show wpAny _ _ (storeName (compEnvC _ _ _ _) _ _) _ _ _); k_dflt (refine cc_store (by assumption) (by assumption) (by exact rfl) (by exact rfl) ?_); intro _ _ _; (try k_sweep)) | ((with_reducible show wpAny _ _ (eval (Expr.Name _ _) (compEnvC _ _ _ _)) _ _ _); k_dflt (refine cc_load (by assumption) (by exact rfl) ?_ (by exact rfl) (by exact rfl) (by exact rfl))) | ((with_reducible show wpAny _ _ _ _ _ _); (fail_if_success (with_reducible first | show wpAny _ _ (exec (Stmt.For _ _ _ _ _) _) _ _ _ | show wpAny _ _ (exec (Stmt.While _ _ _ _) _) _ _ _ | show wpAny _ _ (pyIter _) _ _ _ | show wpAny _ _ (call (Value.builtin "list.pop") _ _) _ _ _ | show wpAny _ _ (call (Value.builtin "str.join") _ _) _ _ _ | show wpAny _ _ (call (Value.builtin "max") _ _) _ _ _ | show wpAny _ _ (setItem _ _ _) _ _ _ | show wpAny _ _ (call (Value.builtin "str.replace") _ _) _ _ _ | show wpAny _ _ (call (Value.builtin "str.split") _ _) _ _ _ | show wpAny _ _ (call (Value.ref _) _ _) _ _ _ | show wpAny _ _ (eval (Expr.ListComp _ _ _ _) _) _ _ _ | show wpAny _ _ (exec (Stmt.Assign _ (Expr.ListComp _ _ _ _) _) _) _ _ _)); first | walk1 | (dsimp only; walk1)) | ((with_reducible show Frag.In _ _ ∧ _); (refine ⟨by k_in, ?_⟩); (try dsimp only [List.nil_append, List.cons_append])) | ((with_reducible show (if _ then _ else _)); walk1))
   --CUT
   (rename _ ≤ _ => htk18)
   try dsimp only at htk18
   repeat' (first | ((with_reducible show ((_ : Nat) ≤ _ → _)); intro htk9; (try dsimp only at htk9); revert htk9; intro _) | ((with_reducible show wpAny _ _ (execs (_ :: _) _) _ _ _); refine execs_hidt (by first | omega | (dsimp only; omega)) ?_; intro _ _ htk9; (try dsimp only at htk9); revert htk9; intro _ Qk9 kH9; (try dsimp only)) | ((with_reducible show wpAny _ _ (execs [] _) _ _ _); refine wpAny_execs_nil ?_; (try dsimp only)) | ((first | (k_unfold; (try dsimp only)) | ((with_reducible show wpAny _ _ (execs (_ :: _) _) _ _ _); refine execs_hide ?_; intro Qk9 kH9; (try dsimp only)) | ((with_reducible rename Hid _ _ _ => kH9); first | (refine hid_next kH9 ?_; clear kH9; (try clear Qk9)) | (refine hid_other kH9 (by nofun) ?_; clear kH9; (try clear Qk9)); (try dsimp only)) | ((with_reducible show wpAny _ _ (eval (Expr.Name _ _) (envOfC _ _ _ _ _)) _ _ _); k_dflt (first | refine nmC_L (by exact rfl) (by exact rfl) (by exact rfl) (by assumption) (by exact rfl) ?_ | refine nmC_C (by exact rfl) (by exact rfl) (by exact rfl) (by assumption) (by exact rfl) (by k_mem) (by assumption) ?_ | refine nmC_K (by exact rfl) (by exact rfl) (by exact rfl) (by assumption) (by assumption) (by k_asm) (by k_is) ?_ | refine nmC_B (by exact rfl) (by exact rfl) (by exact rfl) (by assumption) (by assumption) (by k_asm) (by k_is) (by boot_by_name) (by decide) ?_)) | ((with_reducible show wpAny _ _ (eval (Expr.Name _ _) (compEnvC _ _ _ _)) _ _ _); k_dflt (refine cc_cell (by exact rfl) (Fr.keep (by assumption) _ _ (by assumption)) (by assumption) ?_ (by exact rfl) (by exact rfl) (by exact rfl))) | ((with_reducible show wpAny _ _ (eval (Expr.Name _ _) (compEnvC _ _ _ _)) _ _ _); k_dflt (refine cc_blt (by assumption) (by assumption) (by assumption) (by k_is) (by boot_by_name) (by decide) ?_ (by exact rfl) (by exact rfl) (by exact rfl) (by exact rfl) (by exact rfl))) | ((with_reducible show wpAny _ _ (call (Value.builtin "chr") [Value.int _ _]) _ _ _); k_dflt (refine chr_one (by assumption) ?_)) | ((with_reducible show wpAny _ _ (call (Value.builtin "ord") [Value.str _ _]) _ _ _); k_dflt (refine' ord_one ?_)) | ((with_reducible show wpAny _ _ (subscriptTail _ _ (Value.ref _) (Value.int _ _)) _ _ _); k_dflt (refine heap_item (Heap.IsList.at (by assumption) (fun o e => Fr.keep (by assumption) _ _ e)) (by omega) (by omega) (by assumption) ?_ (by exact rfl))) | ((with_reducible show wpAny _ _ (binaryOp Operator.Add (Value.str _ _) (Value.str _ _)) _ _ _); k_dflt (refine SB.add ?_ (add_fits (by walk_at "m_len") (by walk_at "m_len") (by decide +kernel)); intro _ _; (try dsimp only))) | ((with_reducible show wpAny _ _ (call (Value.builtin "len") [Value.str _ _]) _ _ _); k_dflt (refine len_str_ok (Nat.le_trans (by walk_at "m_len") (by decide +kernel)) ?_; (try dsimp only))) | ((with_reducible show wpAny _ _ (call (Value.builtin "list.append") [Value.ref _, _]) _ _ _); k_dflt (refine append_K (by k_asm) (by k_asm) (by k_upd) ?_ (by refine size_ok ?_; (try simp only [List.size_toArray]); omega); k_whole); intro _ _ _; (try k_sweep)) | ((with_reducible show wpAny _ _ (storeName (compEnvC _ _ _ _) _ _) _ _ _); k_dflt (refine cc_store (by assumption) (by assumption) (by exact rfl) (by exact rfl) ?_); intro _ _ _; (try k_sweep)) | ((with_reducible show wpAny _ _ (eval (Expr.Name _ _) (compEnvC _ _ _ _)) _ _ _); k_dflt (refine cc_load (by assumption) (by exact rfl) ?_ (by exact rfl) (by exact rfl) (by exact rfl))) | ((with_reducible show wpAny _ _ _ _ _ _); (fail_if_success (with_reducible first | show wpAny _ _ (exec (Stmt.For _ _ _ _ _) _) _ _ _ | show wpAny _ _ (exec (Stmt.While _ _ _ _) _) _ _ _ | show wpAny _ _ (pyIter _) _ _ _ | show wpAny _ _ (call (Value.builtin "list.pop") _ _) _ _ _ | show wpAny _ _ (call (Value.builtin "str.join") _ _) _ _ _ | show wpAny _ _ (call (Value.builtin "max") _ _) _ _ _ | show wpAny _ _ (setItem _ _ _) _ _ _ | show wpAny _ _ (call (Value.builtin "str.replace") _ _) _ _ _ | show wpAny _ _ (call (Value.builtin "str.split") _ _) _ _ _ | show wpAny _ _ (call (Value.ref _) _ _) _ _ _ | show wpAny _ _ (eval (Expr.ListComp _ _ _ _) _) _ _ _ | show wpAny _ _ (exec (Stmt.Assign _ (Expr.ListComp _ _ _ _) _) _) _ _ _)); first | walk1 | (dsimp only; walk1)) | ((with_reducible show Frag.In _ _ ∧ _); (refine ⟨by k_in, ?_⟩); (try dsimp only [List.nil_append, List.cons_append])) | ((with_reducible show (if _ then _ else _)); walk1)); (try dsimp only)))
   (rename Fr _ _ _ _ => F19)
   (rename News _ _ _ _ => N19)
   have hst18 : (Str.ofString ".+-_/\\:;\"()") = menuS := rfl
   rw [hst18] at F19
   obtain ⟨ca, cb, hca, hcb, hown⟩ := own_text ns.sum (ns.sum.fmod 11 + 1 + (ns.sum.fdiv 11).fmod 10)
   rw [hown] at F19
   refine wpAny_call (std_call (X.keeps F19.keep) (T.keeps F19.keep) ?_ rfl (data_size hgp) ?_)
   · show callerA.depth + 1 < 480; decide +kernel
   intro h20 tk20 t20 st20
   rw [enc_std hgp]
   replace F19 := fr_stays F19 st20
   replace N19 := news_stays N19 st20
   try dsimp only
   repeat' (first | ((with_reducible show ((_ : Nat) ≤ _ → _)); intro htk9; (try dsimp only at htk9); revert htk9; intro _) | ((with_reducible show wpAny _ _ (execs (_ :: _) _) _ _ _); refine execs_hidt (by first | omega | (dsimp only; omega)) ?_; intro _ _ htk9; (try dsimp only at htk9); revert htk9; intro _ Qk9 kH9; (try dsimp only)) | ((with_reducible show wpAny _ _ (execs [] _) _ _ _); refine wpAny_execs_nil ?_; (try dsimp only)) | ((first | (k_unfold; (try dsimp only)) | ((with_reducible show wpAny _ _ (execs (_ :: _) _) _ _ _); refine execs_hide ?_; intro Qk9 kH9; (try dsimp only)) | ((with_reducible rename Hid _ _ _ => kH9); first | (refine hid_next kH9 ?_; clear kH9; (try clear Qk9)) | (refine hid_other kH9 (by nofun) ?_; clear kH9; (try clear Qk9)); (try dsimp only)) | ((with_reducible show wpAny _ _ (eval (Expr.Name _ _) (envOfC _ _ _ _ _)) _ _ _); k_dflt (first | refine nmC_L (by exact rfl) (by exact rfl) (by exact rfl) (by assumption) (by exact rfl) ?_ | refine nmC_C (by exact rfl) (by exact rfl) (by exact rfl) (by assumption) (by exact rfl) (by k_mem) (by assumption) ?_ | refine nmC_K (by exact rfl) (by exact rfl) (by exact rfl) (by assumption) (by assumption) (by k_asm) (by k_is) ?_ | refine nmC_B (by exact rfl) (by exact rfl) (by exact rfl) (by assumption) (by assumption) (by k_asm) (by k_is) (by boot_by_name) (by decide) ?_)) | ((with_reducible show wpAny _ _ (eval (Expr.Name _ _) (compEnvC _ _ _ _)) _ _ _); k_dflt (refine cc_cell (by exact rfl) (Fr.keep (by assumption) _ _ (by assumption)) (by assumption) ?_ (by exact rfl) (by exact rfl) (by exact rfl))) | ((with_reducible show wpAny _ _ (eval (Expr.Name _ _) (compEnvC _ _ _ _)) _ _ _); k_dflt (refine cc_blt (by assumption) (by assumption) (by assumption) (by k_is) (by boot_by_name) (by decide) ?_ (by exact rfl) (by exact rfl) (by exact rfl) (by exact rfl) (by exact rfl))) | ((with_reducible show wpAny _ _ (call (Value.builtin "chr") [Value.int _ _]) _ _ _); k_dflt (refine chr_one (by assumption) ?_)) | ((with_reducible show wpAny _ _ (call (Value.builtin "ord") [Value.str _ _]) _ _ _); k_dflt (refine' ord_one ?_)) | ((with_reducible show wpAny _ _ (subscriptTail _ _ (Value.ref _) (Value.int _ _)) _ _ _); k_dflt (refine heap_item (Heap.IsList.at (by assumption) (fun o e => Fr.keep (by assumption) _ _ e)) (by omega) (by omega) (by assumption) ?_ (by exact rfl))) | ((with_reducible show wpAny _ _ (binaryOp Operator.Add (Value.str _ _) (Value.str _ _)) _ _ _); k_dflt (refine SB.add ?_ (add_fits (by walk_at "m_len") (by walk_at "m_len") (by decide +kernel)); intro _ _; (try dsimp only))) | ((with_reducible show wpAny _ _ (call (Value.builtin "len") [Value.str _ _]) _ _ _); k_dflt (refine len_str_ok (Nat.le_trans (by walk_at "m_len") (by decide +kernel)) ?_; (try dsimp only))) | ((with_reducible show wpAny _ _ (call (Value.builtin "list.append") [Value.ref _, _]) _ _ _); k_dflt (refine append_K (by k_asm) (by k_asm) (by k_upd) ?_ (by refine size_ok ?_; (try simp only [List.size_toArray]); omega); k_whole); intro _ _ _; (try k_sweep)) | ((with_reducible show wpAny _ _ (storeName (compEnvC _ _ _ _) _ _) _ _ _); k_dflt (refine cc_store (by assumption) (by assumption) (by exact rfl) (by exact rfl) ?_); intro _ _ _; (try k_sweep)) | ((with_reducible show wpAny _ _ (eval (Expr.Name _ _) (compEnvC _ _ _ _)) _ _ _); k_dflt (refine cc_load (by assumption) (by exact rfl) ?_ (by exact rfl) (by exact rfl) (by exact rfl))) | ((with_reducible show wpAny _ _ _ _ _ _); (fail_if_success (with_reducible first | show wpAny _ _ (exec (Stmt.For _ _ _ _ _) _) _ _ _ | show wpAny _ _ (exec (Stmt.While _ _ _ _) _) _ _ _ | show wpAny _ _ (pyIter _) _ _ _ | show wpAny _ _ (call (Value.builtin "list.pop") _ _) _ _ _ | show wpAny _ _ (call (Value.builtin "str.join") _ _) _ _ _ | show wpAny _ _ (call (Value.builtin "max") _ _) _ _ _ | show wpAny _ _ (setItem _ _ _) _ _ _ | show wpAny _ _ (call (Value.builtin "str.replace") _ _) _ _ _ | show wpAny _ _ (call (Value.builtin "str.split") _ _) _ _ _ | show wpAny _ _ (call (Value.ref _) _ _) _ _ _ | show wpAny _ _ (eval (Expr.ListComp _ _ _ _) _) _ _ _ | show wpAny _ _ (exec (Stmt.Assign _ (Expr.ListComp _ _ _ _) _) _) _ _ _)); first | walk1 | (dsimp only; walk1)) | ((with_reducible show Frag.In _ _ ∧ _); (refine ⟨by k_in, ?_⟩); (try dsimp only [List.nil_append, List.cons_append])) | ((with_reducible show (if _ then _ else _)); walk1)); (try dsimp only)))
   (rename Fr _ _ _ _ => F21)
   (rename News _ _ _ _ => N21)
   refine wpAny_call (url_call (X.keeps F21.keep) (T.keeps F21.keep) ?_ rfl (data_size hgp) ?_)
   · show callerA.depth + 1 < 480; decide +kernel
   intro h22 tk22 t22 st22
   rw [show swap 45 95 = swap (UInt8.ofNat 45) (UInt8.ofNat 95) from rfl, enc_tr hgp (by decide) (by decide)]
   replace F21 := fr_stays F21 st22
   replace N21 := news_stays N21 st22
   try dsimp only
   repeat' (first | ((with_reducible show ((_ : Nat) ≤ _ → _)); intro htk9; (try dsimp only at htk9); revert htk9; intro _) | ((with_reducible show wpAny _ _ (execs (_ :: _) _) _ _ _); refine execs_hidt (by first | omega | (dsimp only; omega)) ?_; intro _ _ htk9; (try dsimp only at htk9); revert htk9; intro _ Qk9 kH9; (try dsimp only)) | ((with_reducible show wpAny _ _ (execs [] _) _ _ _); refine wpAny_execs_nil ?_; (try dsimp only)) | ((first | (k_unfold; (try dsimp only)) | ((with_reducible show wpAny _ _ (execs (_ :: _) _) _ _ _); refine execs_hide ?_; intro Qk9 kH9; (try dsimp only)) | ((with_reducible rename Hid _ _ _ => kH9); first | (refine hid_next kH9 ?_; clear kH9; (try clear Qk9)) | (refine hid_other kH9 (by nofun) ?_; clear kH9; (try clear Qk9)); (try dsimp only)) | ((with_reducible show wpAny _ _ (eval (Expr.Name _ _) (envOfC _ _ _ _ _)) _ _ _); k_dflt (first | refine nmC_L (by exact rfl) (by exact rfl) (by exact rfl) (by assumption) (by exact rfl) ?_ | refine nmC_C (by exact rfl) (by exact rfl) (by exact rfl) (by assumption) (by exact rfl) (by k_mem) (by assumption) ?_ | refine nmC_K (by exact rfl) (by exact rfl) (by exact rfl) (by assumption) (by assumption) (by k_asm) (by k_is) ?_ | refine nmC_B (by exact rfl) (by exact rfl) (by exact rfl) (by assumption) (by assumption) (by k_asm) (by k_is) (by boot_by_name) (by decide) ?_)) | ((with_reducible show wpAny _ _ (eval (Expr.Name _ _) (compEnvC _ _ _ _)) _ _ _); k_dflt (refine cc_cell (by exact rfl) (Fr.keep (by assumption) _ _ (by assumption)) (by assumption) ?_ (by exact rfl) (by exact rfl) (by exact rfl))) | ((with_reducible show wpAny _ _ (eval (Expr.Name _ _) (compEnvC _ _ _ _)) _ _ _); k_dflt (refine cc_blt (by assumption) (by assumption) (by assumption) (by k_is) (by boot_by_name) (by decide) ?_ (by exact rfl) (by exact rfl) (by exact rfl) (by exact rfl) (by exact rfl))) | ((with_reducible show wpAny _ _ (call (Value.builtin "chr") [Value.int _ _]) _ _ _); k_dflt (refine chr_one (by assumption) ?_)) | ((with_reducible show wpAny _ _ (call (Value.builtin "ord") [Value.str _ _]) _ _ _); k_dflt (refine' ord_one ?_)) | ((with_reducible show wpAny _ _ (subscriptTail _ _ (Value.ref _) (Value.int _ _)) _ _ _); k_dflt (refine heap_item (Heap.IsList.at (by assumption) (fun o e => Fr.keep (by assumption) _ _ e)) (by omega) (by omega) (by assumption) ?_ (by exact rfl))) | ((with_reducible show wpAny _ _ (binaryOp Operator.Add (Value.str _ _) (Value.str _ _)) _ _ _); k_dflt (refine SB.add ?_ (add_fits (by walk_at "m_len") (by walk_at "m_len") (by decide +kernel)); intro _ _; (try dsimp only))) | ((with_reducible show wpAny _ _ (call (Value.builtin "len") [Value.str _ _]) _ _ _); k_dflt (refine len_str_ok (Nat.le_trans (by walk_at "m_len") (by decide +kernel)) ?_; (try dsimp only))) | ((with_reducible show wpAny _ _ (call (Value.builtin "list.append") [Value.ref _, _]) _ _ _); k_dflt (refine append_K (by k_asm) (by k_asm) (by k_upd) ?_ (by refine size_ok ?_; (try simp only [List.size_toArray]); omega); k_whole); intro _ _ _; (try k_sweep)) | ((with_reducible show wpAny _ _ (storeName (compEnvC _ _ _ _) _ _) _ _ _); k_dflt (refine cc_store (by assumption) (by assumption) (by exact rfl) (by exact rfl) ?_); intro _ _ _; (try k_sweep)) | ((with_reducible show wpAny _ _ (eval (Expr.Name _ _) (compEnvC _ _ _ _)) _ _ _); k_dflt (refine cc_load (by assumption) (by exact rfl) ?_ (by exact rfl) (by exact rfl) (by exact rfl))) | ((with_reducible show wpAny _ _ _ _ _ _); (fail_if_success (with_reducible first | show wpAny _ _ (exec (Stmt.For _ _ _ _ _) _) _ _ _ | show wpAny _ _ (exec (Stmt.While _ _ _ _) _) _ _ _ | show wpAny _ _ (pyIter _) _ _ _ | show wpAny _ _ (call (Value.builtin "list.pop") _ _) _ _ _ | show wpAny _ _ (call (Value.builtin "str.join") _ _) _ _ _ | show wpAny _ _ (call (Value.builtin "max") _ _) _ _ _ | show wpAny _ _ (setItem _ _ _) _ _ _ | show wpAny _ _ (call (Value.builtin "str.replace") _ _) _ _ _ | show wpAny _ _ (call (Value.builtin "str.split") _ _) _ _ _ | show wpAny _ _ (call (Value.ref _) _ _) _ _ _ | show wpAny _ _ (eval (Expr.ListComp _ _ _ _) _) _ _ _ | show wpAny _ _ (exec (Stmt.Assign _ (Expr.ListComp _ _ _ _) _) _) _ _ _)); first | walk1 | (dsimp only; walk1)) | ((with_reducible show Frag.In _ _ ∧ _); (refine ⟨by k_in, ?_⟩); (try dsimp only [List.nil_append, List.cons_append])) | ((with_reducible show (if _ then _ else _)); walk1)); (try dsimp only)))
   (rename Fr _ _ _ _ => F23)
   (rename News _ _ _ _ => N23)
   refine noE_mono (comp_eval (by exact rfl) (by decide) (by exact rfl) (by decide) ?_)
   repeat' ((first | (k_unfold; (try dsimp only)) | ((with_reducible show wpAny _ _ (execs (_ :: _) _) _ _ _); refine execs_hide ?_; intro Qk9 kH9; (try dsimp only)) | ((with_reducible rename Hid _ _ _ => kH9); first | (refine hid_next kH9 ?_; clear kH9; (try clear Qk9)) | (refine hid_other kH9 (by nofun) ?_; clear kH9; (try clear Qk9)); (try dsimp only)) | ((with_reducible show wpAny _ _ (eval (Expr.Name _ _) (envOfC _ _ _ _ _)) _ _ _); k_dflt (first | refine nmC_L (by exact rfl) (by exact rfl) (by exact rfl) (by assumption) (by exact rfl) ?_ | refine nmC_C (by exact rfl) (by exact rfl) (by exact rfl) (by assumption) (by exact rfl) (by k_mem) (by assumption) ?_ | refine nmC_K (by exact rfl) (by exact rfl) (by exact rfl) (by assumption) (by assumption) (by k_asm) (by k_is) ?_ | refine nmC_B (by exact rfl) (by exact rfl) (by exact rfl) (by assumption) (by assumption) (by k_asm) (by k_is) (by boot_by_name) (by decide) ?_)) | ((with_reducible show wpAny _ _ (eval (Expr.Name _ _) (compEnvC _ _ _ _)) _ _ _); k_dflt (refine cc_cell (by exact rfl) (Fr.keep (by assumption) _ _ (by assumption)) (by assumption) ?_ (by exact rfl) (by exact rfl) (by exact rfl))) | ((with_reducible show wpAny _ _ (eval (Expr.Name _ _) (compEnvC _ _ _ _)) _ _ _); k_dflt (refine cc_blt (by assumption) (by assumption) (by assumption) (by k_is) (by boot_by_name) (by decide) ?_ (by exact rfl) (by exact rfl) (by exact rfl) (by exact rfl) (by exact rfl))) | ((with_reducible show wpAny _ _ (call (Value.builtin "chr") [Value.int _ _]) _ _ _); k_dflt (refine chr_one (by assumption) ?_)) | ((with_reducible show wpAny _ _ (call (Value.builtin "ord") [Value.str _ _]) _ _ _); k_dflt (refine' ord_one ?_)) | ((with_reducible show wpAny _ _ (subscriptTail _ _ (Value.ref _) (Value.int _ _)) _ _ _); k_dflt (refine heap_item (Heap.IsList.at (by assumption) (fun o e => Fr.keep (by assumption) _ _ e)) (by omega) (by omega) (by assumption) ?_ (by exact rfl))) | ((with_reducible show wpAny _ _ (binaryOp Operator.Add (Value.str _ _) (Value.str _ _)) _ _ _); k_dflt (refine SB.add ?_ (add_fits (by walk_at "m_len") (by walk_at "m_len") (by decide +kernel)); intro _ _; (try dsimp only))) | ((with_reducible show wpAny _ _ (call (Value.builtin "len") [Value.str _ _]) _ _ _); k_dflt (refine len_str_ok (Nat.le_trans (by walk_at "m_len") (by decide +kernel)) ?_; (try dsimp only))) | ((with_reducible show wpAny _ _ (call (Value.builtin "list.append") [Value.ref _, _]) _ _ _); k_dflt (refine append_K (by k_asm) (by k_asm) (by k_upd) ?_ (by refine size_ok ?_; (try simp only [List.size_toArray]); omega); k_whole); intro _ _ _; (try k_sweep)) | ((with_reducible show wpAny _ _ (storeName (compEnvC _ _ _ _) _ _) _ _ _); k_dflt (refine cc_store (by assumption) (by assumption) (by exact rfl) (by exact rfl) ?_); intro _ _ _; (try k_sweep)) | ((with_reducible show wpAny _ _ (eval (Expr.Name _ _) (compEnvC _ _ _ _)) _ _ _); k_dflt (refine cc_load (by assumption) (by exact rfl) ?_ (by exact rfl) (by exact rfl) (by exact rfl))) | ((with_reducible show wpAny _ _ _ _ _ _); (fail_if_success (with_reducible first | show wpAny _ _ (exec (Stmt.For _ _ _ _ _) _) _ _ _ | show wpAny _ _ (exec (Stmt.While _ _ _ _) _) _ _ _ | show wpAny _ _ (pyIter _) _ _ _ | show wpAny _ _ (call (Value.builtin "list.pop") _ _) _ _ _ | show wpAny _ _ (call (Value.builtin "str.join") _ _) _ _ _ | show wpAny _ _ (call (Value.builtin "max") _ _) _ _ _ | show wpAny _ _ (setItem _ _ _) _ _ _ | show wpAny _ _ (call (Value.builtin "str.replace") _ _) _ _ _ | show wpAny _ _ (call (Value.builtin "str.split") _ _) _ _ _ | show wpAny _ _ (call (Value.ref _) _ _) _ _ _ | show wpAny _ _ (eval (Expr.ListComp _ _ _ _) _) _ _ _ | show wpAny _ _ (exec (Stmt.Assign _ (Expr.ListComp _ _ _ _) _) _) _ _ _)); first | walk1 | (dsimp only; walk1)) | ((with_reducible show Frag.In _ _ ∧ _); (refine ⟨by k_in, ?_⟩); (try dsimp only [List.nil_append, List.cons_append])) | ((with_reducible show (if _ then _ else _)); walk1)); (try dsimp only))
   have X23 := X.keeps F23.keep
   have T23 := topRead_of (T.keeps F23.keep)
   have hca2 := (menu_facts ca hca).2.2.2.1
   have hcb2 := (menu_facts cb hcb).2.2.2.1
   refine compi_str (s := ⟨_, _, _, _, _⟩) (fun i r objs k => objs = [] ∧ ∃ (c : Nat) (t : Tok), #[ca, cb][i]? = some c ∧ r = some (.int (c : Int) t)) rfl ?_ ?_ ?_ ?_
   · simp; omega
   · show 2 ≤ sizeLine; rw [sizeLine_eq]; decide
   · rintro C i v h tk m₁ olds hi ⟨c, u, hc, rfl, hu1, hu2⟩ htk2 F₁ N₁
     dsimp only at hu1 hu2 htk2 F₁ N₁
     try dsimp only
     repeat' ((first | (k_unfold; (try dsimp only)) | ((with_reducible show wpAny _ _ (execs (_ :: _) _) _ _ _); refine execs_hide ?_; intro Qk9 kH9; (try dsimp only)) | ((with_reducible rename Hid _ _ _ => kH9); first | (refine hid_next kH9 ?_; clear kH9; (try clear Qk9)) | (refine hid_other kH9 (by nofun) ?_; clear kH9; (try clear Qk9)); (try dsimp only)) | ((with_reducible show wpAny _ _ (eval (Expr.Name _ _) (envOfC _ _ _ _ _)) _ _ _); k_dflt (first | refine nmC_L (by exact rfl) (by exact rfl) (by exact rfl) (by assumption) (by exact rfl) ?_ | refine nmC_C (by exact rfl) (by exact rfl) (by exact rfl) (by assumption) (by exact rfl) (by k_mem) (by assumption) ?_ | refine nmC_K (by exact rfl) (by exact rfl) (by exact rfl) (by assumption) (by assumption) (by k_asm) (by k_is) ?_ | refine nmC_B (by exact rfl) (by exact rfl) (by exact rfl) (by assumption) (by assumption) (by k_asm) (by k_is) (by boot_by_name) (by decide) ?_)) | ((with_reducible show wpAny _ _ (eval (Expr.Name _ _) (compEnvC _ _ _ _)) _ _ _); k_dflt (refine cc_cell (by exact rfl) (Fr.keep (by assumption) _ _ (by assumption)) (by assumption) ?_ (by exact rfl) (by exact rfl) (by exact rfl))) | ((with_reducible show wpAny _ _ (eval (Expr.Name _ _) (compEnvC _ _ _ _)) _ _ _); k_dflt (refine cc_blt (by assumption) (by assumption) (by assumption) (by k_is) (by boot_by_name) (by decide) ?_ (by exact rfl) (by exact rfl) (by exact rfl) (by exact rfl) (by exact rfl))) | ((with_reducible show wpAny _ _ (call (Value.builtin "chr") [Value.int _ _]) _ _ _); k_dflt (refine chr_one (by assumption) ?_)) | ((with_reducible show wpAny _ _ (call (Value.builtin "ord") [Value.str _ _]) _ _ _); k_dflt (refine' ord_one ?_)) | ((with_reducible show wpAny _ _ (subscriptTail _ _ (Value.ref _) (Value.int _ _)) _ _ _); k_dflt (refine heap_item (Heap.IsList.at (by assumption) (fun o e => Fr.keep (by assumption) _ _ e)) (by omega) (by omega) (by assumption) ?_ (by exact rfl))) | ((with_reducible show wpAny _ _ (binaryOp Operator.Add (Value.str _ _) (Value.str _ _)) _ _ _); k_dflt (refine SB.add ?_ (add_fits (by walk_at "m_len") (by walk_at "m_len") (by decide +kernel)); intro _ _; (try dsimp only))) | ((with_reducible show wpAny _ _ (call (Value.builtin "len") [Value.str _ _]) _ _ _); k_dflt (refine len_str_ok (Nat.le_trans (by walk_at "m_len") (by decide +kernel)) ?_; (try dsimp only))) | ((with_reducible show wpAny _ _ (call (Value.builtin "list.append") [Value.ref _, _]) _ _ _); k_dflt (refine append_K (by k_asm) (by k_asm) (by k_upd) ?_ (by refine size_ok ?_; (try simp only [List.size_toArray]); omega); k_whole); intro _ _ _; (try k_sweep)) | ((with_reducible show wpAny _ _ (storeName (compEnvC _ _ _ _) _ _) _ _ _); k_dflt (refine cc_store (by assumption) (by assumption) (by exact rfl) (by exact rfl) ?_); intro _ _ _; (try k_sweep)) | ((with_reducible show wpAny _ _ (eval (Expr.Name _ _) (compEnvC _ _ _ _)) _ _ _); k_dflt (refine cc_load (by assumption) (by exact rfl) ?_ (by exact rfl) (by exact rfl) (by exact rfl))) | ((with_reducible show wpAny _ _ _ _ _ _); (fail_if_success (with_reducible first | show wpAny _ _ (exec (Stmt.For _ _ _ _ _) _) _ _ _ | show wpAny _ _ (exec (Stmt.While _ _ _ _) _) _ _ _ | show wpAny _ _ (pyIter _) _ _ _ | show wpAny _ _ (call (Value.builtin "list.pop") _ _) _ _ _ | show wpAny _ _ (call (Value.builtin "str.join") _ _) _ _ _ | show wpAny _ _ (call (Value.builtin "max") _ _) _ _ _ | show wpAny _ _ (setItem _ _ _) _ _ _ | show wpAny _ _ (call (Value.builtin "str.replace") _ _) _ _ _ | show wpAny _ _ (call (Value.builtin "str.split") _ _) _ _ _ | show wpAny _ _ (call (Value.ref _) _ _) _ _ _ | show wpAny _ _ (eval (Expr.ListComp _ _ _ _) _) _ _ _ | show wpAny _ _ (exec (Stmt.Assign _ (Expr.ListComp _ _ _ _) _) _) _ _ _)); first | walk1 | (dsimp only; walk1)) | ((with_reducible show Frag.In _ _ ∧ _); (refine ⟨by k_in, ?_⟩); (try dsimp only [List.nil_append, List.cons_append])) | ((with_reducible show (if _ then _ else _)); walk1)); (try dsimp only))
     exact ⟨_, _, _, [], rfl, ‹Fr _ _ _ _›, ‹News _ _ _ _›, (fun p hp => nomatch hp), rfl, c, _, by simpa using hc, rfl⟩
   intro h24 D24 h25 tk25 rs25 hD25 hle25 hlen25 hEl25 hlist25 hst25 hobj25
   obtain ⟨ta, tb, hrs⟩ := two_ints (tk := tk25) hlen25 hEl25
   rw [hrs] at hlist25
   replace F23 := fr_stays F23 hst25
   replace N23 := news_stays N23 hst25
   clear hEl25 hobj25 hlen25 hrs rs25 X23 T23
   try dsimp only
   repeat' ((first | (k_unfold; (try dsimp only)) | ((with_reducible show wpAny _ _ (execs (_ :: _) _) _ _ _); refine execs_hide ?_; intro Qk9 kH9; (try dsimp only)) | ((with_reducible rename Hid _ _ _ => kH9); first | (refine hid_next kH9 ?_; clear kH9; (try clear Qk9)) | (refine hid_other kH9 (by nofun) ?_; clear kH9; (try clear Qk9)); (try dsimp only)) | ((with_reducible show wpAny _ _ (eval (Expr.Name _ _) (envOfC _ _ _ _ _)) _ _ _); k_dflt (first | refine nmC_L (by exact rfl) (by exact rfl) (by exact rfl) (by assumption) (by exact rfl) ?_ | refine nmC_C (by exact rfl) (by exact rfl) (by exact rfl) (by assumption) (by exact rfl) (by k_mem) (by assumption) ?_ | refine nmC_K (by exact rfl) (by exact rfl) (by exact rfl) (by assumption) (by assumption) (by k_asm) (by k_is) ?_ | refine nmC_B (by exact rfl) (by exact rfl) (by exact rfl) (by assumption) (by assumption) (by k_asm) (by k_is) (by boot_by_name) (by decide) ?_)) | ((with_reducible show wpAny _ _ (eval (Expr.Name _ _) (compEnvC _ _ _ _)) _ _ _); k_dflt (refine cc_cell (by exact rfl) (Fr.keep (by assumption) _ _ (by assumption)) (by assumption) ?_ (by exact rfl) (by exact rfl) (by exact rfl))) | ((with_reducible show wpAny _ _ (eval (Expr.Name _ _) (compEnvC _ _ _ _)) _ _ _); k_dflt (refine cc_blt (by assumption) (by assumption) (by assumption) (by k_is) (by boot_by_name) (by decide) ?_ (by exact rfl) (by exact rfl) (by exact rfl) (by exact rfl) (by exact rfl))) | ((with_reducible show wpAny _ _ (call (Value.builtin "chr") [Value.int _ _]) _ _ _); k_dflt (refine chr_one (by assumption) ?_)) | ((with_reducible show wpAny _ _ (call (Value.builtin "ord") [Value.str _ _]) _ _ _); k_dflt (refine' ord_one ?_)) | ((with_reducible show wpAny _ _ (subscriptTail _ _ (Value.ref _) (Value.int _ _)) _ _ _); k_dflt (refine heap_item (Heap.IsList.at (by assumption) (fun o e => Fr.keep (by assumption) _ _ e)) (by omega) (by omega) (by assumption) ?_ (by exact rfl))) | ((with_reducible show wpAny _ _ (binaryOp Operator.Add (Value.str _ _) (Value.str _ _)) _ _ _); k_dflt (refine SB.add ?_ (add_fits (by walk_at "m_len") (by walk_at "m_len") (by decide +kernel)); intro _ _; (try dsimp only))) | ((with_reducible show wpAny _ _ (call (Value.builtin "len") [Value.str _ _]) _ _ _); k_dflt (refine len_str_ok (Nat.le_trans (by walk_at "m_len") (by decide +kernel)) ?_; (try dsimp only))) | ((with_reducible show wpAny _ _ (call (Value.builtin "list.append") [Value.ref _, _]) _ _ _); k_dflt (refine append_K (by k_asm) (by k_asm) (by k_upd) ?_ (by refine size_ok ?_; (try simp only [List.size_toArray]); omega); k_whole); intro _ _ _; (try k_sweep)) | ((with_reducible show wpAny _ _ (storeName (compEnvC _ _ _ _) _ _) _ _ _); k_dflt (refine cc_store (by assumption) (by assumption) (by exact rfl) (by exact rfl) ?_); intro _ _ _; (try k_sweep)) | ((with_reducible show wpAny _ _ (eval (Expr.Name _ _) (compEnvC _ _ _ _)) _ _ _); k_dflt (refine cc_load (by assumption) (by exact rfl) ?_ (by exact rfl) (by exact rfl) (by exact rfl))) | ((with_reducible show wpAny _ _ _ _ _ _); (fail_if_success (with_reducible first | show wpAny _ _ (exec (Stmt.For _ _ _ _ _) _) _ _ _ | show wpAny _ _ (exec (Stmt.While _ _ _ _) _) _ _ _ | show wpAny _ _ (pyIter _) _ _ _ | show wpAny _ _ (call (Value.builtin "list.pop") _ _) _ _ _ | show wpAny _ _ (call (Value.builtin "str.join") _ _) _ _ _ | show wpAny _ _ (call (Value.builtin "max") _ _) _ _ _ | show wpAny _ _ (setItem _ _ _) _ _ _ | show wpAny _ _ (call (Value.builtin "str.replace") _ _) _ _ _ | show wpAny _ _ (call (Value.builtin "str.split") _ _) _ _ _ | show wpAny _ _ (call (Value.ref _) _ _) _ _ _ | show wpAny _ _ (eval (Expr.ListComp _ _ _ _) _) _ _ _ | show wpAny _ _ (exec (Stmt.Assign _ (Expr.ListComp _ _ _ _) _) _) _ _ _)); first | walk1 | (dsimp only; walk1)) | ((with_reducible show Frag.In _ _ ∧ _); (refine ⟨by k_in, ?_⟩); (try dsimp only [List.nil_append, List.cons_append])) | ((with_reducible show (if _ then _ else _)); walk1)); (try dsimp only))
   refine bytes_K (vs := [.int (ca : Int) ta, .int (cb : Int) tb]) F23 N23 (let ⟨n, hn⟩ := hlist25; ⟨_, hn, rfl, _, rfl⟩) (.cons _ _ (.cons _ _ .nil)) ?_ ?_ rfl ?_
   · intro n hn
     simp only [List.mem_cons, List.not_mem_nil, or_false] at hn
     rcases hn with rfl | rfl <;> omega
   · rw [sizeLine_eq]; show 2 ≤ 16777216; decide
   intro h26 t26 k26 F26 N26 _
   clear hlist25 F23 N23
   try dsimp only
   repeat' ((first | (k_unfold; (try dsimp only)) | ((with_reducible show wpAny _ _ (execs (_ :: _) _) _ _ _); refine execs_hide ?_; intro Qk9 kH9; (try dsimp only)) | ((with_reducible rename Hid _ _ _ => kH9); first | (refine hid_next kH9 ?_; clear kH9; (try clear Qk9)) | (refine hid_other kH9 (by nofun) ?_; clear kH9; (try clear Qk9)); (try dsimp only)) | ((with_reducible show wpAny _ _ (eval (Expr.Name _ _) (envOfC _ _ _ _ _)) _ _ _); k_dflt (first | refine nmC_L (by exact rfl) (by exact rfl) (by exact rfl) (by assumption) (by exact rfl) ?_ | refine nmC_C (by exact rfl) (by exact rfl) (by exact rfl) (by assumption) (by exact rfl) (by k_mem) (by assumption) ?_ | refine nmC_K (by exact rfl) (by exact rfl) (by exact rfl) (by assumption) (by assumption) (by k_asm) (by k_is) ?_ | refine nmC_B (by exact rfl) (by exact rfl) (by exact rfl) (by assumption) (by assumption) (by k_asm) (by k_is) (by boot_by_name) (by decide) ?_)) | ((with_reducible show wpAny _ _ (eval (Expr.Name _ _) (compEnvC _ _ _ _)) _ _ _); k_dflt (refine cc_cell (by exact rfl) (Fr.keep (by assumption) _ _ (by assumption)) (by assumption) ?_ (by exact rfl) (by exact rfl) (by exact rfl))) | ((with_reducible show wpAny _ _ (eval (Expr.Name _ _) (compEnvC _ _ _ _)) _ _ _); k_dflt (refine cc_blt (by assumption) (by assumption) (by assumption) (by k_is) (by boot_by_name) (by decide) ?_ (by exact rfl) (by exact rfl) (by exact rfl) (by exact rfl) (by exact rfl))) | ((with_reducible show wpAny _ _ (call (Value.builtin "chr") [Value.int _ _]) _ _ _); k_dflt (refine chr_one (by assumption) ?_)) | ((with_reducible show wpAny _ _ (call (Value.builtin "ord") [Value.str _ _]) _ _ _); k_dflt (refine' ord_one ?_)) | ((with_reducible show wpAny _ _ (subscriptTail _ _ (Value.ref _) (Value.int _ _)) _ _ _); k_dflt (refine heap_item (Heap.IsList.at (by assumption) (fun o e => Fr.keep (by assumption) _ _ e)) (by omega) (by omega) (by assumption) ?_ (by exact rfl))) | ((with_reducible show wpAny _ _ (binaryOp Operator.Add (Value.str _ _) (Value.str _ _)) _ _ _); k_dflt (refine SB.add ?_ (add_fits (by walk_at "m_len") (by walk_at "m_len") (by decide +kernel)); intro _ _; (try dsimp only))) | ((with_reducible show wpAny _ _ (call (Value.builtin "len") [Value.str _ _]) _ _ _); k_dflt (refine len_str_ok (Nat.le_trans (by walk_at "m_len") (by decide +kernel)) ?_; (try dsimp only))) | ((with_reducible show wpAny _ _ (call (Value.builtin "list.append") [Value.ref _, _]) _ _ _); k_dflt (refine append_K (by k_asm) (by k_asm) (by k_upd) ?_ (by refine size_ok ?_; (try simp only [List.size_toArray]); omega); k_whole); intro _ _ _; (try k_sweep)) | ((with_reducible show wpAny _ _ (storeName (compEnvC _ _ _ _) _ _) _ _ _); k_dflt (refine cc_store (by assumption) (by assumption) (by exact rfl) (by exact rfl) ?_); intro _ _ _; (try k_sweep)) | ((with_reducible show wpAny _ _ (eval (Expr.Name _ _) (compEnvC _ _ _ _)) _ _ _); k_dflt (refine cc_load (by assumption) (by exact rfl) ?_ (by exact rfl) (by exact rfl) (by exact rfl))) | ((with_reducible show wpAny _ _ _ _ _ _); (fail_if_success (with_reducible first | show wpAny _ _ (exec (Stmt.For _ _ _ _ _) _) _ _ _ | show wpAny _ _ (exec (Stmt.While _ _ _ _) _) _ _ _ | show wpAny _ _ (pyIter _) _ _ _ | show wpAny _ _ (call (Value.builtin "list.pop") _ _) _ _ _ | show wpAny _ _ (call (Value.builtin "str.join") _ _) _ _ _ | show wpAny _ _ (call (Value.builtin "max") _ _) _ _ _ | show wpAny _ _ (setItem _ _ _) _ _ _ | show wpAny _ _ (call (Value.builtin "str.replace") _ _) _ _ _ | show wpAny _ _ (call (Value.builtin "str.split") _ _) _ _ _ | show wpAny _ _ (call (Value.ref _) _ _) _ _ _ | show wpAny _ _ (eval (Expr.ListComp _ _ _ _) _) _ _ _ | show wpAny _ _ (exec (Stmt.Assign _ (Expr.ListComp _ _ _ _) _) _) _ _ _)); first | walk1 | (dsimp only; walk1)) | ((with_reducible show Frag.In _ _ ∧ _); (refine ⟨by k_in, ?_⟩); (try dsimp only [List.nil_append, List.cons_append])) | ((with_reducible show (if _ then _ else _)); walk1)); (try dsimp only))
   refine wpAny_call (enc_alt_call (a := UInt8.ofNat ca) (b := UInt8.ofNat cb) (X.keeps F26.keep) (T.keeps F26.keep) ?_ rfl (data_size hgp) ?_)
   · show callerA.depth + 1 < 490; decide +kernel
   intro h28 tk28 t28 st28
   rw [enc_tr hgp (by omega) (by omega)]
   replace F26 := fr_stays F26 st28
   replace N26 := news_stays N26 st28
   try dsimp only
   repeat' (first | ((with_reducible show ((_ : Nat) ≤ _ → _)); intro htk9; (try dsimp only at htk9); revert htk9; intro _) | ((with_reducible show wpAny _ _ (execs (_ :: _) _) _ _ _); refine execs_hidt (by first | omega | (dsimp only; omega)) ?_; intro _ _ htk9; (try dsimp only at htk9); revert htk9; intro _ Qk9 kH9; (try dsimp only)) | ((with_reducible show wpAny _ _ (execs [] _) _ _ _); refine wpAny_execs_nil ?_; (try dsimp only)) | ((first | (k_unfold; (try dsimp only)) | ((with_reducible show wpAny _ _ (execs (_ :: _) _) _ _ _); refine execs_hide ?_; intro Qk9 kH9; (try dsimp only)) | ((with_reducible rename Hid _ _ _ => kH9); first | (refine hid_next kH9 ?_; clear kH9; (try clear Qk9)) | (refine hid_other kH9 (by nofun) ?_; clear kH9; (try clear Qk9)); (try dsimp only)) | ((with_reducible show wpAny _ _ (eval (Expr.Name _ _) (envOfC _ _ _ _ _)) _ _ _); k_dflt (first | refine nmC_L (by exact rfl) (by exact rfl) (by exact rfl) (by assumption) (by exact rfl) ?_ | refine nmC_C (by exact rfl) (by exact rfl) (by exact rfl) (by assumption) (by exact rfl) (by k_mem) (by assumption) ?_ | refine nmC_K (by exact rfl) (by exact rfl) (by exact rfl) (by assumption) (by assumption) (by k_asm) (by k_is) ?_ | refine nmC_B (by exact rfl) (by exact rfl) (by exact rfl) (by assumption) (by assumption) (by k_asm) (by k_is) (by boot_by_name) (by decide) ?_)) | ((with_reducible show wpAny _ _ (eval (Expr.Name _ _) (compEnvC _ _ _ _)) _ _ _); k_dflt (refine cc_cell (by exact rfl) (Fr.keep (by assumption) _ _ (by assumption)) (by assumption) ?_ (by exact rfl) (by exact rfl) (by exact rfl))) | ((with_reducible show wpAny _ _ (eval (Expr.Name _ _) (compEnvC _ _ _ _)) _ _ _); k_dflt (refine cc_blt (by assumption) (by assumption) (by assumption) (by k_is) (by boot_by_name) (by decide) ?_ (by exact rfl) (by exact rfl) (by exact rfl) (by exact rfl) (by exact rfl))) | ((with_reducible show wpAny _ _ (call (Value.builtin "chr") [Value.int _ _]) _ _ _); k_dflt (refine chr_one (by assumption) ?_)) | ((with_reducible show wpAny _ _ (call (Value.builtin "ord") [Value.str _ _]) _ _ _); k_dflt (refine' ord_one ?_)) | ((with_reducible show wpAny _ _ (subscriptTail _ _ (Value.ref _) (Value.int _ _)) _ _ _); k_dflt (refine heap_item (Heap.IsList.at (by assumption) (fun o e => Fr.keep (by assumption) _ _ e)) (by omega) (by omega) (by assumption) ?_ (by exact rfl))) | ((with_reducible show wpAny _ _ (binaryOp Operator.Add (Value.str _ _) (Value.str _ _)) _ _ _); k_dflt (refine SB.add ?_ (add_fits (by walk_at "m_len") (by walk_at "m_len") (by decide +kernel)); intro _ _; (try dsimp only))) | ((with_reducible show wpAny _ _ (call (Value.builtin "len") [Value.str _ _]) _ _ _); k_dflt (refine len_str_ok (Nat.le_trans (by walk_at "m_len") (by decide +kernel)) ?_; (try dsimp only))) | ((with_reducible show wpAny _ _ (call (Value.builtin "list.append") [Value.ref _, _]) _ _ _); k_dflt (refine append_K (by k_asm) (by k_asm) (by k_upd) ?_ (by refine size_ok ?_; (try simp only [List.size_toArray]); omega); k_whole); intro _ _ _; (try k_sweep)) | ((with_reducible show wpAny _ _ (storeName (compEnvC _ _ _ _) _ _) _ _ _); k_dflt (refine cc_store (by assumption) (by assumption) (by exact rfl) (by exact rfl) ?_); intro _ _ _; (try k_sweep)) | ((with_reducible show wpAny _ _ (eval (Expr.Name _ _) (compEnvC _ _ _ _)) _ _ _); k_dflt (refine cc_load (by assumption) (by exact rfl) ?_ (by exact rfl) (by exact rfl) (by exact rfl))) | ((with_reducible show wpAny _ _ _ _ _ _); (fail_if_success (with_reducible first | show wpAny _ _ (exec (Stmt.For _ _ _ _ _) _) _ _ _ | show wpAny _ _ (exec (Stmt.While _ _ _ _) _) _ _ _ | show wpAny _ _ (pyIter _) _ _ _ | show wpAny _ _ (call (Value.builtin "list.pop") _ _) _ _ _ | show wpAny _ _ (call (Value.builtin "str.join") _ _) _ _ _ | show wpAny _ _ (call (Value.builtin "max") _ _) _ _ _ | show wpAny _ _ (setItem _ _ _) _ _ _ | show wpAny _ _ (call (Value.builtin "str.replace") _ _) _ _ _ | show wpAny _ _ (call (Value.builtin "str.split") _ _) _ _ _ | show wpAny _ _ (call (Value.ref _) _ _) _ _ _ | show wpAny _ _ (eval (Expr.ListComp _ _ _ _) _) _ _ _ | show wpAny _ _ (exec (Stmt.Assign _ (Expr.ListComp _ _ _ _) _) _) _ _ _)); first | walk1 | (dsimp only; walk1)) | ((with_reducible show Frag.In _ _ ∧ _); (refine ⟨by k_in, ?_⟩); (try dsimp only [List.nil_append, List.cons_append])) | ((with_reducible show (if _ then _ else _)); walk1)); (try dsimp only)))
   --CUT
   rename_i T3 h29a lT3 h29 F29 N29 htk29a tk29 htk29 htk29'
   rw [show Str.ofString "+/" = ⟨#[43, 47]⟩ from by decide +kernel, show Str.ofString "-_" = ⟨#[45, 95]⟩ from by decide +kernel] at N29
   have pk : ∃ (atr T1 T2 : Addr) (t1 t2 t3 t4 t5 t6 : Tok) (m : Str → Option Value), Fr s.heap s.heap.objs.size h29 m ∧ (∀ q ∈ [(Str.ofString "trio", Value.ref atr), (Str.ofString "stages", Value.ref ast), (Str.ofString "bounds", Value.ref D10)], m q.1 = some q.2) ∧
     News s.heap s.heap.objs.size h29 ((T3, tup2 (.str ⟨#[ca, cb]⟩ t1) (.bytes (wrote page ca cb) t2)) :: (atr, W.listOf [Value.ref T1, Value.ref T2, Value.ref T3].toArray 1) :: (T2, tup2 (.str ⟨#[45, 95]⟩ t3) (.bytes (wrote page 45 95) t4)) :: (T1, tup2 (.str ⟨#[43, 47]⟩ t5) (.bytes (wrote page 43 47) t6)) ::
       (ast, W.listOf sts.toArray sk) :: (ap, W.listOf pvs.toArray pk) :: (D10, W.listOf bvs.toArray k10) :: (s.heap.objs.size + 1 + 1 + 1 + 1 + 1, o1) :: (s.heap.objs.size + 1 + 1 + 1 + 1, otc) :: (s.heap.objs.size + 1 + 1 + 1, opl) :: (s.heap.objs.size + 1 + 1, ojn) :: (s.heap.objs.size + 1, opg) :: tl) ∧
     @LT.lt Nat _ (s.heap.objs.size + 1 + 1 + 1 + 1 + 1) T1 ∧ @LT.lt Nat _ (s.heap.objs.size + 1 + 1 + 1 + 1 + 1) T2 ∧ @LT.lt Nat _ (s.heap.objs.size + 1 + 1 + 1 + 1 + 1) T3 ∧ @LT.lt Nat _ (s.heap.objs.size + 1 + 1 + 1 + 1 + 1) atr ∧ @LT.lt Nat _ (s.heap.objs.size + 1 + 1 + 1 + 1 + 1) ast :=
     ⟨_, _, _, _, _, _, _, _, _, _, F29, by kst_all, N29, by omega, by omega, by omega, by omega, by omega⟩
   have hJm : ∀ d ∈ jn.cps.toList, d ∈ ixL ++ [45] := by rw [hjn]; exact joined_mem (cuts := cuts) (page_mem hgp) _
   have hcl := hgp.cl
   clear F29 N29
   obtain ⟨atr, T1, T2, t1, t2, t3, t4, t5, t6, m30, F30, hm30, N30, lT1, lT2, lT3, latr, last⟩ := pk
   have hm43 : 43 ∈ menuL ∧ 47 ∈ menuL ∧ 45 ∈ menuL ∧ 95 ∈ menuL := by decide
   have pk2 : ∃ tl2 : List (Addr × Obj), News s.heap s.heap.objs.size h29 ((s.heap.objs.size + 1 + 1 + 1 + 1 + 1, o1) :: (atr, W.listOf [Value.ref T1, Value.ref T2, Value.ref T3].toArray 1) :: (ast, W.listOf sts.toArray sk) :: (D10, W.listOf bvs.toArray k10) :: (s.heap.objs.size + 1, opg) :: tl2) ∧
     (∀ p ∈ tl2, p.1 ≠ s.heap.objs.size + 1 + 1 + 1 + 1 + 1) ∧ TupsOf (bnd cuts page.length) tl2 bvs ∧
     (∀ (i : Nat) (v : Value), [Value.ref T1, Value.ref T2, Value.ref T3].toArray[i]? = some v → ∃ (T : Addr) (a b : Nat) (ta tb : Tok), v = .ref T ∧ a ∈ menuL ∧ b ∈ menuL ∧ (T, tup2 (.str ⟨#[a, b]⟩ ta) (.bytes (wrote page a b) tb)) ∈ tl2) := by
     refine ⟨(T3, tup2 (.str ⟨#[ca, cb]⟩ t1) (.bytes (wrote page ca cb) t2)) :: (T2, tup2 (.str ⟨#[45, 95]⟩ t3) (.bytes (wrote page 45 95) t4)) :: (T1, tup2 (.str ⟨#[43, 47]⟩ t5) (.bytes (wrote page 43 47) t6)) :: tl, fun q hq => N30 q ?_, ?_, ?_, ?_⟩
     · simp only [List.mem_cons] at hq ⊢
       rcases hq with h | h | h | h | h | h | h | h | h <;> simp [h]
     · refine all_cons (neN (Nat.ne_of_gt lT3)) (all_cons (neN (Nat.ne_of_gt lT2)) (all_cons (neN (Nat.ne_of_gt lT1)) tc5))
     · exact ⟨htup.1, fun i q hq => let ⟨T, t, u, h1, h2⟩ := htup.2 i q hq; ⟨T, t, u, h1, .tail _ (.tail _ (.tail _ h2))⟩⟩
     · intro i v hv
       match i, hv with
       | 0, hv => exact ⟨T1, 43, 47, t5, t6, (Option.some.inj hv).symm, hm43.1, hm43.2.1, .tail _ (.tail _ (.head _))⟩
       | 1, hv => exact ⟨T2, 45, 95, t3, t4, (Option.some.inj hv).symm, hm43.2.2.1, hm43.2.2.2, .tail _ (.head _)⟩
       | 2, hv => exact ⟨T3, ca, cb, t1, t2, (Option.some.inj hv).symm, hca, hcb, .head _⟩
       | n + 3, hv => simp at hv
   obtain ⟨tl2, N31, tk5, htup2, hTr⟩ := pk2
   have hoff2 := news_off TB N31
   obtain ⟨ps0, hps0, F32, N32⟩ := tab_news TB F30 N31
   clear F30 N30 N31 htup hm43
   obtain ⟨mc, hmc, _⟩ := id T.nolimit
   have Xe := er_in TB X T.g hmc (by unfold kb_classed; rfl)
   have Te := er_top TB (topRead_of T)
   have BMe := er_bmod TB BM
   replace F32 := fr_kst _ F32 hm30
   simp only [kstB] at F32
   change Fr (er P s.heap) s.heap.objs.size h29 _ at F32
   have Ts := T
   have Xs := X
   clear T X
   try dsimp only
   refine for_inv (h₀ := er P s.heap) ?_
   repeat' ((first | (k_unfold; (try dsimp only)) | ((with_reducible show wpAny _ _ (execs (_ :: _) _) _ _ _); refine execs_hide ?_; intro Qk9 kH9; (try dsimp only)) | ((with_reducible rename Hid _ _ _ => kH9); first | (refine hid_next kH9 ?_; clear kH9; (try clear Qk9)) | (refine hid_other kH9 (by nofun) ?_; clear kH9; (try clear Qk9)); (try dsimp only)) | ((with_reducible show wpAny _ _ (eval (Expr.Name _ _) (envOfC _ _ _ _ _)) _ _ _); k_dflt (first | refine nmC_L (by exact rfl) (by exact rfl) (by exact rfl) (by assumption) (by exact rfl) ?_ | refine nmC_C (by exact rfl) (by exact rfl) (by exact rfl) (by assumption) (by exact rfl) (by k_mem) (by assumption) ?_ | refine nmC_K (by exact rfl) (by exact rfl) (by exact rfl) (by assumption) (by assumption) (by k_asm) (by k_is) ?_ | refine nmC_B (by exact rfl) (by exact rfl) (by exact rfl) (by assumption) (by assumption) (by k_asm) (by k_is) (by boot_by_name) (by decide) ?_)) | ((with_reducible show wpAny _ _ (eval (Expr.Name _ _) (compEnvC _ _ _ _)) _ _ _); k_dflt (refine cc_cell (by exact rfl) (Fr.keep (by assumption) _ _ (by assumption)) (by assumption) ?_ (by exact rfl) (by exact rfl) (by exact rfl))) | ((with_reducible show wpAny _ _ (eval (Expr.Name _ _) (compEnvC _ _ _ _)) _ _ _); k_dflt (refine cc_blt (by assumption) (by assumption) (by assumption) (by k_is) (by boot_by_name) (by decide) ?_ (by exact rfl) (by exact rfl) (by exact rfl) (by exact rfl) (by exact rfl))) | ((with_reducible show wpAny _ _ (call (Value.builtin "chr") [Value.int _ _]) _ _ _); k_dflt (refine chr_one (by assumption) ?_)) | ((with_reducible show wpAny _ _ (call (Value.builtin "ord") [Value.str _ _]) _ _ _); k_dflt (refine' ord_one ?_)) | ((with_reducible show wpAny _ _ (subscriptTail _ _ (Value.ref _) (Value.int _ _)) _ _ _); k_dflt (refine heap_item (Heap.IsList.at (by assumption) (fun o e => Fr.keep (by assumption) _ _ e)) (by omega) (by omega) (by assumption) ?_ (by exact rfl))) | ((with_reducible show wpAny _ _ (binaryOp Operator.Add (Value.str _ _) (Value.str _ _)) _ _ _); k_dflt (refine SB.add ?_ (add_fits (by walk_at "m_len") (by walk_at "m_len") (by decide +kernel)); intro _ _; (try dsimp only))) | ((with_reducible show wpAny _ _ (call (Value.builtin "len") [Value.str _ _]) _ _ _); k_dflt (refine len_str_ok (Nat.le_trans (by walk_at "m_len") (by decide +kernel)) ?_; (try dsimp only))) | ((with_reducible show wpAny _ _ (call (Value.builtin "list.append") [Value.ref _, _]) _ _ _); k_dflt (refine append_K (by k_asm) (by k_asm) (by k_upd) ?_ (by refine size_ok ?_; (try simp only [List.size_toArray]); omega); k_whole); intro _ _ _; (try k_sweep)) | ((with_reducible show wpAny _ _ (storeName (compEnvC _ _ _ _) _ _) _ _ _); k_dflt (refine cc_store (by assumption) (by assumption) (by exact rfl) (by exact rfl) ?_); intro _ _ _; (try k_sweep)) | ((with_reducible show wpAny _ _ (eval (Expr.Name _ _) (compEnvC _ _ _ _)) _ _ _); k_dflt (refine cc_load (by assumption) (by exact rfl) ?_ (by exact rfl) (by exact rfl) (by exact rfl))) | ((with_reducible show wpAny _ _ _ _ _ _); (fail_if_success (with_reducible first | show wpAny _ _ (exec (Stmt.For _ _ _ _ _) _) _ _ _ | show wpAny _ _ (exec (Stmt.While _ _ _ _) _) _ _ _ | show wpAny _ _ (pyIter _) _ _ _ | show wpAny _ _ (call (Value.builtin "list.pop") _ _) _ _ _ | show wpAny _ _ (call (Value.builtin "str.join") _ _) _ _ _ | show wpAny _ _ (call (Value.builtin "max") _ _) _ _ _ | show wpAny _ _ (setItem _ _ _) _ _ _ | show wpAny _ _ (call (Value.builtin "str.replace") _ _) _ _ _ | show wpAny _ _ (call (Value.builtin "str.split") _ _) _ _ _ | show wpAny _ _ (call (Value.ref _) _ _) _ _ _ | show wpAny _ _ (eval (Expr.ListComp _ _ _ _) _) _ _ _ | show wpAny _ _ (exec (Stmt.Assign _ (Expr.ListComp _ _ _ _) _) _) _ _ _)); first | walk1 | (dsimp only; walk1)) | ((with_reducible show Frag.In _ _ ∧ _); (refine ⟨by k_in, ?_⟩); (try dsimp only [List.nil_append, List.cons_append])) | ((with_reducible show (if _ then _ else _)); walk1)); (try dsimp only))
   have hPlt : @LT.lt Nat _ P s.heap.objs.size := TB.lt.2
   refine iter_list (fun i g m₁ news₁ => ∃ ps sh d, TriplesOk ps.toList ∧ sh.data = .cell d ∧ (∀ q ∈ [(Str.ofString "stages", Value.ref ast), (Str.ofString "bounds", Value.ref D10)], m₁ q.1 = some q.2) ∧
     news₁ = (P, tabObj ps) :: (s.heap.objs.size + 1 + 1 + 1 + 1 + 1, sh) :: (atr, W.listOf [Value.ref T1, Value.ref T2, Value.ref T3].toArray 1) :: (ast, W.listOf sts.toArray sk) :: (D10, W.listOf bvs.toArray k10) :: (s.heap.objs.size + 1, opg) :: tl2 ∧ AllBare g) rfl ⟨_, (N32 _ (.tail _ (.tail _ (.head _)))).1, rfl, _, rfl⟩
     (.inr ⟨W.listOf [Value.ref T1, Value.ref T2, Value.ref T3].toArray 1, by rintro i g m₁ news₁ ⟨ps, sh, d, _, _, _, rfl, _⟩; exact .tail _ (.tail _ (.head _))⟩) F32 N32 ?_ ?_ ?_
   · exact ⟨ps0, o1, _, hps0, dc1, by kst_all, rfl, G⟩
   rotate_left
   · intro h40 tk40 g40 m40 news40 hle40 F40 N40 hJ
     obtain ⟨ps, sh, d, hps, hsh, hm40, rfl, hG⟩ := hJ
     try dsimp only
     repeat' (first | ((with_reducible show ((_ : Nat) ≤ _ → _)); intro htk9; (try dsimp only at htk9); revert htk9; intro _) | ((with_reducible show wpAny _ _ (execs (_ :: _) _) _ _ _); refine execs_hidt (by first | omega | (dsimp only; omega)) ?_; intro _ _ htk9; (try dsimp only at htk9); revert htk9; intro _ Qk9 kH9; (try dsimp only)) | ((with_reducible show wpAny _ _ (execs [] _) _ _ _); refine wpAny_execs_nil ?_; (try dsimp only)) | ((first | (k_unfold; (try dsimp only)) | ((with_reducible show wpAny _ _ (execs (_ :: _) _) _ _ _); refine execs_hide ?_; intro Qk9 kH9; (try dsimp only)) | ((with_reducible rename Hid _ _ _ => kH9); first | (refine hid_next kH9 ?_; clear kH9; (try clear Qk9)) | (refine hid_other kH9 (by nofun) ?_; clear kH9; (try clear Qk9)); (try dsimp only)) | ((with_reducible show wpAny _ _ (eval (Expr.Name _ _) (envOfC _ _ _ _ _)) _ _ _); k_dflt (first | refine nmC_L (by exact rfl) (by exact rfl) (by exact rfl) (by assumption) (by exact rfl) ?_ | refine nmC_C (by exact rfl) (by exact rfl) (by exact rfl) (by assumption) (by exact rfl) (by k_mem) (by assumption) ?_ | refine nmC_K (by exact rfl) (by exact rfl) (by exact rfl) (by assumption) (by assumption) (by k_asm) (by k_is) ?_ | refine nmC_B (by exact rfl) (by exact rfl) (by exact rfl) (by assumption) (by assumption) (by k_asm) (by k_is) (by boot_by_name) (by decide) ?_)) | ((with_reducible show wpAny _ _ (eval (Expr.Name _ _) (compEnvC _ _ _ _)) _ _ _); k_dflt (refine cc_cell (by exact rfl) (Fr.keep (by assumption) _ _ (by assumption)) (by assumption) ?_ (by exact rfl) (by exact rfl) (by exact rfl))) | ((with_reducible show wpAny _ _ (eval (Expr.Name _ _) (compEnvC _ _ _ _)) _ _ _); k_dflt (refine cc_blt (by assumption) (by assumption) (by assumption) (by k_is) (by boot_by_name) (by decide) ?_ (by exact rfl) (by exact rfl) (by exact rfl) (by exact rfl) (by exact rfl))) | ((with_reducible show wpAny _ _ (call (Value.builtin "chr") [Value.int _ _]) _ _ _); k_dflt (refine chr_one (by assumption) ?_)) | ((with_reducible show wpAny _ _ (call (Value.builtin "ord") [Value.str _ _]) _ _ _); k_dflt (refine' ord_one ?_)) | ((with_reducible show wpAny _ _ (subscriptTail _ _ (Value.ref _) (Value.int _ _)) _ _ _); k_dflt (refine heap_item (Heap.IsList.at (by assumption) (fun o e => Fr.keep (by assumption) _ _ e)) (by omega) (by omega) (by assumption) ?_ (by exact rfl))) | ((with_reducible show wpAny _ _ (binaryOp Operator.Add (Value.str _ _) (Value.str _ _)) _ _ _); k_dflt (refine SB.add ?_ (add_fits (by walk_at "m_len") (by walk_at "m_len") (by decide +kernel)); intro _ _; (try dsimp only))) | ((with_reducible show wpAny _ _ (call (Value.builtin "len") [Value.str _ _]) _ _ _); k_dflt (refine len_str_ok (Nat.le_trans (by walk_at "m_len") (by decide +kernel)) ?_; (try dsimp only))) | ((with_reducible show wpAny _ _ (call (Value.builtin "list.append") [Value.ref _, _]) _ _ _); k_dflt (refine append_K (by k_asm) (by k_asm) (by k_upd) ?_ (by refine size_ok ?_; (try simp only [List.size_toArray]); omega); k_whole); intro _ _ _; (try k_sweep)) | ((with_reducible show wpAny _ _ (storeName (compEnvC _ _ _ _) _ _) _ _ _); k_dflt (refine cc_store (by assumption) (by assumption) (by exact rfl) (by exact rfl) ?_); intro _ _ _; (try k_sweep)) | ((with_reducible show wpAny _ _ (eval (Expr.Name _ _) (compEnvC _ _ _ _)) _ _ _); k_dflt (refine cc_load (by assumption) (by exact rfl) ?_ (by exact rfl) (by exact rfl) (by exact rfl))) | ((with_reducible show wpAny _ _ _ _ _ _); (fail_if_success (with_reducible first | show wpAny _ _ (exec (Stmt.For _ _ _ _ _) _) _ _ _ | show wpAny _ _ (exec (Stmt.While _ _ _ _) _) _ _ _ | show wpAny _ _ (pyIter _) _ _ _ | show wpAny _ _ (call (Value.builtin "list.pop") _ _) _ _ _ | show wpAny _ _ (call (Value.builtin "str.join") _ _) _ _ _ | show wpAny _ _ (call (Value.builtin "max") _ _) _ _ _ | show wpAny _ _ (setItem _ _ _) _ _ _ | show wpAny _ _ (call (Value.builtin "str.replace") _ _) _ _ _ | show wpAny _ _ (call (Value.builtin "str.split") _ _) _ _ _ | show wpAny _ _ (call (Value.ref _) _ _) _ _ _ | show wpAny _ _ (eval (Expr.ListComp _ _ _ _) _) _ _ _ | show wpAny _ _ (exec (Stmt.Assign _ (Expr.ListComp _ _ _ _) _) _) _ _ _)); first | walk1 | (dsimp only; walk1)) | ((with_reducible show Frag.In _ _ ∧ _); (refine ⟨by k_in, ?_⟩); (try dsimp only [List.nil_append, List.cons_append])) | ((with_reducible show (if _ then _ else _)); walk1)); (try dsimp only)))
     exact hR _ _ _ (fr_off F40) (tab_in TB hps (fr_off F40) (N40 _ (.head _)).1) hG
   rintro I i v m₁ news₁ g h tk oI hi hv ⟨ps, sh, d, hps, hsh, hm, rfl, hG⟩ hoff htk F₁ N₁
   replace htk : 1 ≤ tk := Nat.le_trans htk29 htk
   replace F₁ := fr_kst _ F₁ hm
   simp only [kstB] at F₁
   change Fr (er P s.heap) s.heap.objs.size h _ at F₁
   change News (er P s.heap) s.heap.objs.size h _ at N₁
   obtain ⟨Tt, a, b, ta, tb, rfl, ha, hb, hmT⟩ := hTr i v hv
   have hI5 := neN (hoff _ (.tail _ (.head _)))
   have hIP := neN (hoff _ (.head _))
   try dsimp only
   refine unpackN_ F₁ N₁ ⟨_, (N₁ _ (.tail _ (.tail _ (.tail _ (.tail _ (.tail _ (.tail _ (.tail _ hmT)))))))).1, rfl, _, rfl⟩ rfl (by exact rfl) (by exact rfl) ?_
   intro h1 F₂ N₂
   clear F₁ N₁
   try dsimp only
   repeat' (first | ((with_reducible show ((_ : Nat) ≤ _ → _)); intro htk9; (try dsimp only at htk9); revert htk9; intro _) | ((with_reducible show wpAny _ _ (execs (_ :: _) _) _ _ _); refine execs_hidt (by first | omega | (dsimp only; omega)) ?_; intro _ _ htk9; (try dsimp only at htk9); revert htk9; intro _ Qk9 kH9; (try dsimp only)) | ((with_reducible show wpAny _ _ (execs [] _) _ _ _); refine wpAny_execs_nil ?_; (try dsimp only)) | ((first | (k_unfold; (try dsimp only)) | ((with_reducible show wpAny _ _ (execs (_ :: _) _) _ _ _); refine execs_hide ?_; intro Qk9 kH9; (try dsimp only)) | ((with_reducible rename Hid _ _ _ => kH9); first | (refine hid_next kH9 ?_; clear kH9; (try clear Qk9)) | (refine hid_other kH9 (by nofun) ?_; clear kH9; (try clear Qk9)); (try dsimp only)) | ((with_reducible show wpAny _ _ (eval (Expr.Name _ _) (envOfC _ _ _ _ _)) _ _ _); k_dflt (first | refine nmC_L (by exact rfl) (by exact rfl) (by exact rfl) (by assumption) (by exact rfl) ?_ | refine nmC_C (by exact rfl) (by exact rfl) (by exact rfl) (by assumption) (by exact rfl) (by k_mem) (by assumption) ?_ | refine nmC_K (by exact rfl) (by exact rfl) (by exact rfl) (by assumption) (by assumption) (by k_asm) (by k_is) ?_ | refine nmC_B (by exact rfl) (by exact rfl) (by exact rfl) (by assumption) (by assumption) (by k_asm) (by k_is) (by boot_by_name) (by decide) ?_)) | ((with_reducible show wpAny _ _ (eval (Expr.Name _ _) (compEnvC _ _ _ _)) _ _ _); k_dflt (refine cc_cell (by exact rfl) (Fr.keep (by assumption) _ _ (by assumption)) (by assumption) ?_ (by exact rfl) (by exact rfl) (by exact rfl))) | ((with_reducible show wpAny _ _ (eval (Expr.Name _ _) (compEnvC _ _ _ _)) _ _ _); k_dflt (refine cc_blt (by assumption) (by assumption) (by assumption) (by k_is) (by boot_by_name) (by decide) ?_ (by exact rfl) (by exact rfl) (by exact rfl) (by exact rfl) (by exact rfl))) | ((with_reducible show wpAny _ _ (call (Value.builtin "chr") [Value.int _ _]) _ _ _); k_dflt (refine chr_one (by assumption) ?_)) | ((with_reducible show wpAny _ _ (call (Value.builtin "ord") [Value.str _ _]) _ _ _); k_dflt (refine' ord_one ?_)) | ((with_reducible show wpAny _ _ (subscriptTail _ _ (Value.ref _) (Value.int _ _)) _ _ _); k_dflt (refine heap_item (Heap.IsList.at (by assumption) (fun o e => Fr.keep (by assumption) _ _ e)) (by omega) (by omega) (by assumption) ?_ (by exact rfl))) | ((with_reducible show wpAny _ _ (binaryOp Operator.Add (Value.str _ _) (Value.str _ _)) _ _ _); k_dflt (refine SB.add ?_ (add_fits (by walk_at "m_len") (by walk_at "m_len") (by decide +kernel)); intro _ _; (try dsimp only))) | ((with_reducible show wpAny _ _ (call (Value.builtin "len") [Value.str _ _]) _ _ _); k_dflt (refine len_str_ok (Nat.le_trans (by walk_at "m_len") (by decide +kernel)) ?_; (try dsimp only))) | ((with_reducible show wpAny _ _ (call (Value.builtin "list.append") [Value.ref _, _]) _ _ _); k_dflt (refine append_K (by k_asm) (by k_asm) (by k_upd) ?_ (by refine size_ok ?_; (try simp only [List.size_toArray]); omega); k_whole); intro _ _ _; (try k_sweep)) | ((with_reducible show wpAny _ _ (storeName (compEnvC _ _ _ _) _ _) _ _ _); k_dflt (refine cc_store (by assumption) (by assumption) (by exact rfl) (by exact rfl) ?_); intro _ _ _; (try k_sweep)) | ((with_reducible show wpAny _ _ (eval (Expr.Name _ _) (compEnvC _ _ _ _)) _ _ _); k_dflt (refine cc_load (by assumption) (by exact rfl) ?_ (by exact rfl) (by exact rfl) (by exact rfl))) | ((with_reducible show wpAny _ _ _ _ _ _); (fail_if_success (with_reducible first | show wpAny _ _ (exec (Stmt.For _ _ _ _ _) _) _ _ _ | show wpAny _ _ (exec (Stmt.While _ _ _ _) _) _ _ _ | show wpAny _ _ (pyIter _) _ _ _ | show wpAny _ _ (call (Value.builtin "list.pop") _ _) _ _ _ | show wpAny _ _ (call (Value.builtin "str.join") _ _) _ _ _ | show wpAny _ _ (call (Value.builtin "max") _ _) _ _ _ | show wpAny _ _ (setItem _ _ _) _ _ _ | show wpAny _ _ (call (Value.builtin "str.replace") _ _) _ _ _ | show wpAny _ _ (call (Value.builtin "str.split") _ _) _ _ _ | show wpAny _ _ (call (Value.ref _) _ _) _ _ _ | show wpAny _ _ (eval (Expr.ListComp _ _ _ _) _) _ _ _ | show wpAny _ _ (exec (Stmt.Assign _ (Expr.ListComp _ _ _ _) _) _) _ _ _)); first | walk1 | (dsimp only; walk1)) | ((with_reducible show Frag.In _ _ ∧ _); (refine ⟨by k_in, ?_⟩); (try dsimp only [List.nil_append, List.cons_append])) | ((with_reducible show (if _ then _ else _)); walk1)); (try dsimp only)))
   refine noE_mono (comp_eval (by exact rfl) (by decide) (by exact rfl) (by decide) ?_)
   repeat' ((first | (k_unfold; (try dsimp only)) | ((with_reducible show wpAny _ _ (execs (_ :: _) _) _ _ _); refine execs_hide ?_; intro Qk9 kH9; (try dsimp only)) | ((with_reducible rename Hid _ _ _ => kH9); first | (refine hid_next kH9 ?_; clear kH9; (try clear Qk9)) | (refine hid_other kH9 (by nofun) ?_; clear kH9; (try clear Qk9)); (try dsimp only)) | ((with_reducible show wpAny _ _ (eval (Expr.Name _ _) (envOfC _ _ _ _ _)) _ _ _); k_dflt (first | refine nmC_L (by exact rfl) (by exact rfl) (by exact rfl) (by assumption) (by exact rfl) ?_ | refine nmC_C (by exact rfl) (by exact rfl) (by exact rfl) (by assumption) (by exact rfl) (by k_mem) (by assumption) ?_ | refine nmC_K (by exact rfl) (by exact rfl) (by exact rfl) (by assumption) (by assumption) (by k_asm) (by k_is) ?_ | refine nmC_B (by exact rfl) (by exact rfl) (by exact rfl) (by assumption) (by assumption) (by k_asm) (by k_is) (by boot_by_name) (by decide) ?_)) | ((with_reducible show wpAny _ _ (eval (Expr.Name _ _) (compEnvC _ _ _ _)) _ _ _); k_dflt (refine cc_cell (by exact rfl) (Fr.keep (by assumption) _ _ (by assumption)) (by assumption) ?_ (by exact rfl) (by exact rfl) (by exact rfl))) | ((with_reducible show wpAny _ _ (eval (Expr.Name _ _) (compEnvC _ _ _ _)) _ _ _); k_dflt (refine cc_blt (by assumption) (by assumption) (by assumption) (by k_is) (by boot_by_name) (by decide) ?_ (by exact rfl) (by exact rfl) (by exact rfl) (by exact rfl) (by exact rfl))) | ((with_reducible show wpAny _ _ (call (Value.builtin "chr") [Value.int _ _]) _ _ _); k_dflt (refine chr_one (by assumption) ?_)) | ((with_reducible show wpAny _ _ (call (Value.builtin "ord") [Value.str _ _]) _ _ _); k_dflt (refine' ord_one ?_)) | ((with_reducible show wpAny _ _ (subscriptTail _ _ (Value.ref _) (Value.int _ _)) _ _ _); k_dflt (refine heap_item (Heap.IsList.at (by assumption) (fun o e => Fr.keep (by assumption) _ _ e)) (by omega) (by omega) (by assumption) ?_ (by exact rfl))) | ((with_reducible show wpAny _ _ (binaryOp Operator.Add (Value.str _ _) (Value.str _ _)) _ _ _); k_dflt (refine SB.add ?_ (add_fits (by walk_at "m_len") (by walk_at "m_len") (by decide +kernel)); intro _ _; (try dsimp only))) | ((with_reducible show wpAny _ _ (call (Value.builtin "len") [Value.str _ _]) _ _ _); k_dflt (refine len_str_ok (Nat.le_trans (by walk_at "m_len") (by decide +kernel)) ?_; (try dsimp only))) | ((with_reducible show wpAny _ _ (call (Value.builtin "list.append") [Value.ref _, _]) _ _ _); k_dflt (refine append_K (by k_asm) (by k_asm) (by k_upd) ?_ (by refine size_ok ?_; (try simp only [List.size_toArray]); omega); k_whole); intro _ _ _; (try k_sweep)) | ((with_reducible show wpAny _ _ (storeName (compEnvC _ _ _ _) _ _) _ _ _); k_dflt (refine cc_store (by assumption) (by assumption) (by exact rfl) (by exact rfl) ?_); intro _ _ _; (try k_sweep)) | ((with_reducible show wpAny _ _ (eval (Expr.Name _ _) (compEnvC _ _ _ _)) _ _ _); k_dflt (refine cc_load (by assumption) (by exact rfl) ?_ (by exact rfl) (by exact rfl) (by exact rfl))) | ((with_reducible show wpAny _ _ _ _ _ _); (fail_if_success (with_reducible first | show wpAny _ _ (exec (Stmt.For _ _ _ _ _) _) _ _ _ | show wpAny _ _ (exec (Stmt.While _ _ _ _) _) _ _ _ | show wpAny _ _ (pyIter _) _ _ _ | show wpAny _ _ (call (Value.builtin "list.pop") _ _) _ _ _ | show wpAny _ _ (call (Value.builtin "str.join") _ _) _ _ _ | show wpAny _ _ (call (Value.builtin "max") _ _) _ _ _ | show wpAny _ _ (setItem _ _ _) _ _ _ | show wpAny _ _ (call (Value.builtin "str.replace") _ _) _ _ _ | show wpAny _ _ (call (Value.builtin "str.split") _ _) _ _ _ | show wpAny _ _ (call (Value.ref _) _ _) _ _ _ | show wpAny _ _ (eval (Expr.ListComp _ _ _ _) _) _ _ _ | show wpAny _ _ (exec (Stmt.Assign _ (Expr.ListComp _ _ _ _) _) _) _ _ _)); first | walk1 | (dsimp only; walk1)) | ((with_reducible show Frag.In _ _ ∧ _); (refine ⟨by k_in, ?_⟩); (try dsimp only [List.nil_append, List.cons_append])) | ((with_reducible show (if _ then _ else _)); walk1)); (try dsimp only))
   (rename Fr _ _ _ _ => F3)
   (rename News _ _ _ _ => N3)
   have X3 := Xe.keeps F3.keep
   have T3' := Te.keeps F3.keep
   have hpl2 := hgp.len
   refine compi_bytes (s := ⟨_, _, _, _, _⟩) (fun i r objs k => objs = [] ∧ ∃ c, (page.cps.toList.map (fm a b))[i]? = some c ∧ ∃ t, r = some (.str ⟨#[c]⟩ t)) rfl ?_ ?_ ?_
   · rw [wrote_size, sizeLine_eq]; omega
   · rintro C i v hh tk' m₂ olds hi ⟨n, u, hn, rfl⟩ htk2 F₂ N₂
     obtain ⟨c, hc, hnc, hc2⟩ := wrote_at hgp ha hb hn
     rw [hnc]
     clear F3 N3 hoff hm hv
     try dsimp only
     repeat' ((first | (k_unfold; (try dsimp only)) | ((with_reducible show wpAny _ _ (execs (_ :: _) _) _ _ _); refine execs_hide ?_; intro Qk9 kH9; (try dsimp only)) | ((with_reducible rename Hid _ _ _ => kH9); first | (refine hid_next kH9 ?_; clear kH9; (try clear Qk9)) | (refine hid_other kH9 (by nofun) ?_; clear kH9; (try clear Qk9)); (try dsimp only)) | ((with_reducible show wpAny _ _ (eval (Expr.Name _ _) (envOfC _ _ _ _ _)) _ _ _); k_dflt (first | refine nmC_L (by exact rfl) (by exact rfl) (by exact rfl) (by assumption) (by exact rfl) ?_ | refine nmC_C (by exact rfl) (by exact rfl) (by exact rfl) (by assumption) (by exact rfl) (by k_mem) (by assumption) ?_ | refine nmC_K (by exact rfl) (by exact rfl) (by exact rfl) (by assumption) (by assumption) (by k_asm) (by k_is) ?_ | refine nmC_B (by exact rfl) (by exact rfl) (by exact rfl) (by assumption) (by assumption) (by k_asm) (by k_is) (by boot_by_name) (by decide) ?_)) | ((with_reducible show wpAny _ _ (eval (Expr.Name _ _) (compEnvC _ _ _ _)) _ _ _); k_dflt (refine cc_cell (by exact rfl) (Fr.keep (by assumption) _ _ (by assumption)) (by assumption) ?_ (by exact rfl) (by exact rfl) (by exact rfl))) | ((with_reducible show wpAny _ _ (eval (Expr.Name _ _) (compEnvC _ _ _ _)) _ _ _); k_dflt (refine cc_blt (by assumption) (by assumption) (by assumption) (by k_is) (by boot_by_name) (by decide) ?_ (by exact rfl) (by exact rfl) (by exact rfl) (by exact rfl) (by exact rfl))) | ((with_reducible show wpAny _ _ (call (Value.builtin "chr") [Value.int _ _]) _ _ _); k_dflt (refine chr_one (by assumption) ?_)) | ((with_reducible show wpAny _ _ (call (Value.builtin "ord") [Value.str _ _]) _ _ _); k_dflt (refine' ord_one ?_)) | ((with_reducible show wpAny _ _ (subscriptTail _ _ (Value.ref _) (Value.int _ _)) _ _ _); k_dflt (refine heap_item (Heap.IsList.at (by assumption) (fun o e => Fr.keep (by assumption) _ _ e)) (by omega) (by omega) (by assumption) ?_ (by exact rfl))) | ((with_reducible show wpAny _ _ (binaryOp Operator.Add (Value.str _ _) (Value.str _ _)) _ _ _); k_dflt (refine SB.add ?_ (add_fits (by walk_at "m_len") (by walk_at "m_len") (by decide +kernel)); intro _ _; (try dsimp only))) | ((with_reducible show wpAny _ _ (call (Value.builtin "len") [Value.str _ _]) _ _ _); k_dflt (refine len_str_ok (Nat.le_trans (by walk_at "m_len") (by decide +kernel)) ?_; (try dsimp only))) | ((with_reducible show wpAny _ _ (call (Value.builtin "list.append") [Value.ref _, _]) _ _ _); k_dflt (refine append_K (by k_asm) (by k_asm) (by k_upd) ?_ (by refine size_ok ?_; (try simp only [List.size_toArray]); omega); k_whole); intro _ _ _; (try k_sweep)) | ((with_reducible show wpAny _ _ (storeName (compEnvC _ _ _ _) _ _) _ _ _); k_dflt (refine cc_store (by assumption) (by assumption) (by exact rfl) (by exact rfl) ?_); intro _ _ _; (try k_sweep)) | ((with_reducible show wpAny _ _ (eval (Expr.Name _ _) (compEnvC _ _ _ _)) _ _ _); k_dflt (refine cc_load (by assumption) (by exact rfl) ?_ (by exact rfl) (by exact rfl) (by exact rfl))) | ((with_reducible show wpAny _ _ _ _ _ _); (fail_if_success (with_reducible first | show wpAny _ _ (exec (Stmt.For _ _ _ _ _) _) _ _ _ | show wpAny _ _ (exec (Stmt.While _ _ _ _) _) _ _ _ | show wpAny _ _ (pyIter _) _ _ _ | show wpAny _ _ (call (Value.builtin "list.pop") _ _) _ _ _ | show wpAny _ _ (call (Value.builtin "str.join") _ _) _ _ _ | show wpAny _ _ (call (Value.builtin "max") _ _) _ _ _ | show wpAny _ _ (setItem _ _ _) _ _ _ | show wpAny _ _ (call (Value.builtin "str.replace") _ _) _ _ _ | show wpAny _ _ (call (Value.builtin "str.split") _ _) _ _ _ | show wpAny _ _ (call (Value.ref _) _ _) _ _ _ | show wpAny _ _ (eval (Expr.ListComp _ _ _ _) _) _ _ _ | show wpAny _ _ (exec (Stmt.Assign _ (Expr.ListComp _ _ _ _) _) _) _ _ _)); first | walk1 | (dsimp only; walk1)) | ((with_reducible show Frag.In _ _ ∧ _); (refine ⟨by k_in, ?_⟩); (try dsimp only [List.nil_append, List.cons_append])) | ((with_reducible show (if _ then _ else _)); walk1)); (try dsimp only))
     exact ⟨_, _, _, [], rfl, ‹Fr _ _ _ _›, ‹News _ _ _ _›, (fun p hp => nomatch hp), rfl, c, hc, _, rfl⟩
   intro h6 D6 h7 tk7 rs6 hD6 hle6 hlen6 hEl6 hlist6 hst6 hobj6
   have hone := strs_ones (l := page.cps.toList.map (fm a b)) (rs := rs6) (by rw [hlen6, wrote_size, List.length_map, len_list]) (fun j r hr => by
     obtain ⟨_, _, _, h2⟩ := hEl6 j r hr
     exact h2)
   replace F3 := fr_stays F3 hst6
   replace N3 := news_stays N3 hst6
   clear hEl6 hobj6 hlen6 X3 T3'
   generalize rs6.filterMap (·.1) = jvs at hone hlist6
   try dsimp only at hle6
   try dsimp only
   repeat' ((first | (k_unfold; (try dsimp only)) | ((with_reducible show wpAny _ _ (execs (_ :: _) _) _ _ _); refine execs_hide ?_; intro Qk9 kH9; (try dsimp only)) | ((with_reducible rename Hid _ _ _ => kH9); first | (refine hid_next kH9 ?_; clear kH9; (try clear Qk9)) | (refine hid_other kH9 (by nofun) ?_; clear kH9; (try clear Qk9)); (try dsimp only)) | ((with_reducible show wpAny _ _ (eval (Expr.Name _ _) (envOfC _ _ _ _ _)) _ _ _); k_dflt (first | refine nmC_L (by exact rfl) (by exact rfl) (by exact rfl) (by assumption) (by exact rfl) ?_ | refine nmC_C (by exact rfl) (by exact rfl) (by exact rfl) (by assumption) (by exact rfl) (by k_mem) (by assumption) ?_ | refine nmC_K (by exact rfl) (by exact rfl) (by exact rfl) (by assumption) (by assumption) (by k_asm) (by k_is) ?_ | refine nmC_B (by exact rfl) (by exact rfl) (by exact rfl) (by assumption) (by assumption) (by k_asm) (by k_is) (by boot_by_name) (by decide) ?_)) | ((with_reducible show wpAny _ _ (eval (Expr.Name _ _) (compEnvC _ _ _ _)) _ _ _); k_dflt (refine cc_cell (by exact rfl) (Fr.keep (by assumption) _ _ (by assumption)) (by assumption) ?_ (by exact rfl) (by exact rfl) (by exact rfl))) | ((with_reducible show wpAny _ _ (eval (Expr.Name _ _) (compEnvC _ _ _ _)) _ _ _); k_dflt (refine cc_blt (by assumption) (by assumption) (by assumption) (by k_is) (by boot_by_name) (by decide) ?_ (by exact rfl) (by exact rfl) (by exact rfl) (by exact rfl) (by exact rfl))) | ((with_reducible show wpAny _ _ (call (Value.builtin "chr") [Value.int _ _]) _ _ _); k_dflt (refine chr_one (by assumption) ?_)) | ((with_reducible show wpAny _ _ (call (Value.builtin "ord") [Value.str _ _]) _ _ _); k_dflt (refine' ord_one ?_)) | ((with_reducible show wpAny _ _ (subscriptTail _ _ (Value.ref _) (Value.int _ _)) _ _ _); k_dflt (refine heap_item (Heap.IsList.at (by assumption) (fun o e => Fr.keep (by assumption) _ _ e)) (by omega) (by omega) (by assumption) ?_ (by exact rfl))) | ((with_reducible show wpAny _ _ (binaryOp Operator.Add (Value.str _ _) (Value.str _ _)) _ _ _); k_dflt (refine SB.add ?_ (add_fits (by walk_at "m_len") (by walk_at "m_len") (by decide +kernel)); intro _ _; (try dsimp only))) | ((with_reducible show wpAny _ _ (call (Value.builtin "len") [Value.str _ _]) _ _ _); k_dflt (refine len_str_ok (Nat.le_trans (by walk_at "m_len") (by decide +kernel)) ?_; (try dsimp only))) | ((with_reducible show wpAny _ _ (call (Value.builtin "list.append") [Value.ref _, _]) _ _ _); k_dflt (refine append_K (by k_asm) (by k_asm) (by k_upd) ?_ (by refine size_ok ?_; (try simp only [List.size_toArray]); omega); k_whole); intro _ _ _; (try k_sweep)) | ((with_reducible show wpAny _ _ (storeName (compEnvC _ _ _ _) _ _) _ _ _); k_dflt (refine cc_store (by assumption) (by assumption) (by exact rfl) (by exact rfl) ?_); intro _ _ _; (try k_sweep)) | ((with_reducible show wpAny _ _ (eval (Expr.Name _ _) (compEnvC _ _ _ _)) _ _ _); k_dflt (refine cc_load (by assumption) (by exact rfl) ?_ (by exact rfl) (by exact rfl) (by exact rfl))) | ((with_reducible show wpAny _ _ _ _ _ _); (fail_if_success (with_reducible first | show wpAny _ _ (exec (Stmt.For _ _ _ _ _) _) _ _ _ | show wpAny _ _ (exec (Stmt.While _ _ _ _) _) _ _ _ | show wpAny _ _ (pyIter _) _ _ _ | show wpAny _ _ (call (Value.builtin "list.pop") _ _) _ _ _ | show wpAny _ _ (call (Value.builtin "str.join") _ _) _ _ _ | show wpAny _ _ (call (Value.builtin "max") _ _) _ _ _ | show wpAny _ _ (setItem _ _ _) _ _ _ | show wpAny _ _ (call (Value.builtin "str.replace") _ _) _ _ _ | show wpAny _ _ (call (Value.builtin "str.split") _ _) _ _ _ | show wpAny _ _ (call (Value.ref _) _ _) _ _ _ | show wpAny _ _ (eval (Expr.ListComp _ _ _ _) _) _ _ _ | show wpAny _ _ (exec (Stmt.Assign _ (Expr.ListComp _ _ _ _) _) _) _ _ _)); first | walk1 | (dsimp only; walk1)) | ((with_reducible show Frag.In _ _ ∧ _); (refine ⟨by k_in, ?_⟩); (try dsimp only [List.nil_append, List.cons_append])) | ((with_reducible show (if _ then _ else _)); walk1)); (try dsimp only))
   refine join_strs 1 (sep := Str.ofString "") (let ⟨n, hn⟩ := hlist6; ⟨_, hn, rfl, _, rfl⟩) hone ?_ ?_ ?_
   · intro y hy
     obtain ⟨q, hq, rfl⟩ := List.mem_map.mp hy
     exact Nat.le_refl _
   · rw [List.length_map, List.length_map, ← len_list]
     have h3 : (Str.ofString "").length = 0 := by decide +kernel
     rw [h3]; omega
   intro jt jk
   have hsh1 := ones_join (page.cps.toList.map (fm a b))
   generalize Str.join (Str.ofString "") _ = shs at hsh1 ⊢
   have hshl : shs.length = page.length := by rw [len_list, hsh1, List.length_map, len_list]
   clear hone hlist6
   try dsimp only
   repeat' (first | ((with_reducible show ((_ : Nat) ≤ _ → _)); intro htk9; (try dsimp only at htk9); revert htk9; intro _) | ((with_reducible show wpAny _ _ (execs (_ :: _) _) _ _ _); refine execs_hidt (by first | omega | (dsimp only; omega)) ?_; intro _ _ htk9; (try dsimp only at htk9); revert htk9; intro _ Qk9 kH9; (try dsimp only)) | ((with_reducible show wpAny _ _ (execs [] _) _ _ _); refine wpAny_execs_nil ?_; (try dsimp only)) | ((first | (k_unfold; (try dsimp only)) | ((with_reducible show wpAny _ _ (execs (_ :: _) _) _ _ _); refine execs_hide ?_; intro Qk9 kH9; (try dsimp only)) | ((with_reducible rename Hid _ _ _ => kH9); first | (refine hid_next kH9 ?_; clear kH9; (try clear Qk9)) | (refine hid_other kH9 (by nofun) ?_; clear kH9; (try clear Qk9)); (try dsimp only)) | ((with_reducible show wpAny _ _ (eval (Expr.Name _ _) (envOfC _ _ _ _ _)) _ _ _); k_dflt (first | refine nmC_L (by exact rfl) (by exact rfl) (by exact rfl) (by assumption) (by exact rfl) ?_ | refine nmC_C (by exact rfl) (by exact rfl) (by exact rfl) (by assumption) (by exact rfl) (by k_mem) (by assumption) ?_ | refine nmC_K (by exact rfl) (by exact rfl) (by exact rfl) (by assumption) (by assumption) (by k_asm) (by k_is) ?_ | refine nmC_B (by exact rfl) (by exact rfl) (by exact rfl) (by assumption) (by assumption) (by k_asm) (by k_is) (by boot_by_name) (by decide) ?_)) | ((with_reducible show wpAny _ _ (eval (Expr.Name _ _) (compEnvC _ _ _ _)) _ _ _); k_dflt (refine cc_cell (by exact rfl) (Fr.keep (by assumption) _ _ (by assumption)) (by assumption) ?_ (by exact rfl) (by exact rfl) (by exact rfl))) | ((with_reducible show wpAny _ _ (eval (Expr.Name _ _) (compEnvC _ _ _ _)) _ _ _); k_dflt (refine cc_blt (by assumption) (by assumption) (by assumption) (by k_is) (by boot_by_name) (by decide) ?_ (by exact rfl) (by exact rfl) (by exact rfl) (by exact rfl) (by exact rfl))) | ((with_reducible show wpAny _ _ (call (Value.builtin "chr") [Value.int _ _]) _ _ _); k_dflt (refine chr_one (by assumption) ?_)) | ((with_reducible show wpAny _ _ (call (Value.builtin "ord") [Value.str _ _]) _ _ _); k_dflt (refine' ord_one ?_)) | ((with_reducible show wpAny _ _ (subscriptTail _ _ (Value.ref _) (Value.int _ _)) _ _ _); k_dflt (refine heap_item (Heap.IsList.at (by assumption) (fun o e => Fr.keep (by assumption) _ _ e)) (by omega) (by omega) (by assumption) ?_ (by exact rfl))) | ((with_reducible show wpAny _ _ (binaryOp Operator.Add (Value.str _ _) (Value.str _ _)) _ _ _); k_dflt (refine SB.add ?_ (add_fits (by walk_at "m_len") (by walk_at "m_len") (by decide +kernel)); intro _ _; (try dsimp only))) | ((with_reducible show wpAny _ _ (call (Value.builtin "len") [Value.str _ _]) _ _ _); k_dflt (refine len_str_ok (Nat.le_trans (by walk_at "m_len") (by decide +kernel)) ?_; (try dsimp only))) | ((with_reducible show wpAny _ _ (call (Value.builtin "list.append") [Value.ref _, _]) _ _ _); k_dflt (refine append_K (by k_asm) (by k_asm) (by k_upd) ?_ (by refine size_ok ?_; (try simp only [List.size_toArray]); omega); k_whole); intro _ _ _; (try k_sweep)) | ((with_reducible show wpAny _ _ (storeName (compEnvC _ _ _ _) _ _) _ _ _); k_dflt (refine cc_store (by assumption) (by assumption) (by exact rfl) (by exact rfl) ?_); intro _ _ _; (try k_sweep)) | ((with_reducible show wpAny _ _ (eval (Expr.Name _ _) (compEnvC _ _ _ _)) _ _ _); k_dflt (refine cc_load (by assumption) (by exact rfl) ?_ (by exact rfl) (by exact rfl) (by exact rfl))) | ((with_reducible show wpAny _ _ _ _ _ _); (fail_if_success (with_reducible first | show wpAny _ _ (exec (Stmt.For _ _ _ _ _) _) _ _ _ | show wpAny _ _ (exec (Stmt.While _ _ _ _) _) _ _ _ | show wpAny _ _ (pyIter _) _ _ _ | show wpAny _ _ (call (Value.builtin "list.pop") _ _) _ _ _ | show wpAny _ _ (call (Value.builtin "str.join") _ _) _ _ _ | show wpAny _ _ (call (Value.builtin "max") _ _) _ _ _ | show wpAny _ _ (setItem _ _ _) _ _ _ | show wpAny _ _ (call (Value.builtin "str.replace") _ _) _ _ _ | show wpAny _ _ (call (Value.builtin "str.split") _ _) _ _ _ | show wpAny _ _ (call (Value.ref _) _ _) _ _ _ | show wpAny _ _ (eval (Expr.ListComp _ _ _ _) _) _ _ _ | show wpAny _ _ (exec (Stmt.Assign _ (Expr.ListComp _ _ _ _) _) _) _ _ _)); first | walk1 | (dsimp only; walk1)) | ((with_reducible show Frag.In _ _ ∧ _); (refine ⟨by k_in, ?_⟩); (try dsimp only [List.nil_append, List.cons_append])) | ((with_reducible show (if _ then _ else _)); walk1)); (try dsimp only)))
   --CUT
   (rename Obj => osh)
   (rename Fr _ _ _ _ => F4)
   (rename News _ _ _ _ => N4)
   (with_reducible rename (osh.data = _) => dosh)
   have hfa := menu_facts a ha
   have hfb := menu_facts b hb
   rw [show Txt.item ⟨#[a, b]⟩ 0 = ⟨#[a]⟩ from rfl]
   refine' repl_tok ?u ?v ?uv ?yz ?x ?z ?_
   case u => omega
   case v => omega
   case uv => omega
   case yz => exact one_ne star_lit hfa.2.2.2.2.2.2.1
   case x => omega
   case z => show 1 ≤ 100; decide
   intro u1 kk1 hkk1
   have hx1 := replace_sign page (Str.ofString "*") 42 a star_lit
   generalize Txt.replace page (Str.ofString "*") ⟨#[a]⟩ = x1 at hx1 ⊢
   have hx1l : x1.length ≤ 200 := by rw [len_list, hx1, List.length_map, ← len_list]; omega
   try dsimp only at hkk1
   try dsimp only
   repeat' (first | ((with_reducible show ((_ : Nat) ≤ _ → _)); intro htk9; (try dsimp only at htk9); revert htk9; intro _) | ((with_reducible show wpAny _ _ (execs (_ :: _) _) _ _ _); refine execs_hidt (by first | omega | (dsimp only; omega)) ?_; intro _ _ htk9; (try dsimp only at htk9); revert htk9; intro _ Qk9 kH9; (try dsimp only)) | ((with_reducible show wpAny _ _ (execs [] _) _ _ _); refine wpAny_execs_nil ?_; (try dsimp only)) | ((first | (k_unfold; (try dsimp only)) | ((with_reducible show wpAny _ _ (execs (_ :: _) _) _ _ _); refine execs_hide ?_; intro Qk9 kH9; (try dsimp only)) | ((with_reducible rename Hid _ _ _ => kH9); first | (refine hid_next kH9 ?_; clear kH9; (try clear Qk9)) | (refine hid_other kH9 (by nofun) ?_; clear kH9; (try clear Qk9)); (try dsimp only)) | ((with_reducible show wpAny _ _ (eval (Expr.Name _ _) (envOfC _ _ _ _ _)) _ _ _); k_dflt (first | refine nmC_L (by exact rfl) (by exact rfl) (by exact rfl) (by assumption) (by exact rfl) ?_ | refine nmC_C (by exact rfl) (by exact rfl) (by exact rfl) (by assumption) (by exact rfl) (by k_mem) (by assumption) ?_ | refine nmC_K (by exact rfl) (by exact rfl) (by exact rfl) (by assumption) (by assumption) (by k_asm) (by k_is) ?_ | refine nmC_B (by exact rfl) (by exact rfl) (by exact rfl) (by assumption) (by assumption) (by k_asm) (by k_is) (by boot_by_name) (by decide) ?_)) | ((with_reducible show wpAny _ _ (eval (Expr.Name _ _) (compEnvC _ _ _ _)) _ _ _); k_dflt (refine cc_cell (by exact rfl) (Fr.keep (by assumption) _ _ (by assumption)) (by assumption) ?_ (by exact rfl) (by exact rfl) (by exact rfl))) | ((with_reducible show wpAny _ _ (eval (Expr.Name _ _) (compEnvC _ _ _ _)) _ _ _); k_dflt (refine cc_blt (by assumption) (by assumption) (by assumption) (by k_is) (by boot_by_name) (by decide) ?_ (by exact rfl) (by exact rfl) (by exact rfl) (by exact rfl) (by exact rfl))) | ((with_reducible show wpAny _ _ (call (Value.builtin "chr") [Value.int _ _]) _ _ _); k_dflt (refine chr_one (by assumption) ?_)) | ((with_reducible show wpAny _ _ (call (Value.builtin "ord") [Value.str _ _]) _ _ _); k_dflt (refine' ord_one ?_)) | ((with_reducible show wpAny _ _ (subscriptTail _ _ (Value.ref _) (Value.int _ _)) _ _ _); k_dflt (refine heap_item (Heap.IsList.at (by assumption) (fun o e => Fr.keep (by assumption) _ _ e)) (by omega) (by omega) (by assumption) ?_ (by exact rfl))) | ((with_reducible show wpAny _ _ (binaryOp Operator.Add (Value.str _ _) (Value.str _ _)) _ _ _); k_dflt (refine SB.add ?_ (add_fits (by walk_at "m_len") (by walk_at "m_len") (by decide +kernel)); intro _ _; (try dsimp only))) | ((with_reducible show wpAny _ _ (call (Value.builtin "len") [Value.str _ _]) _ _ _); k_dflt (refine len_str_ok (Nat.le_trans (by walk_at "m_len") (by decide +kernel)) ?_; (try dsimp only))) | ((with_reducible show wpAny _ _ (call (Value.builtin "list.append") [Value.ref _, _]) _ _ _); k_dflt (refine append_K (by k_asm) (by k_asm) (by k_upd) ?_ (by refine size_ok ?_; (try simp only [List.size_toArray]); omega); k_whole); intro _ _ _; (try k_sweep)) | ((with_reducible show wpAny _ _ (storeName (compEnvC _ _ _ _) _ _) _ _ _); k_dflt (refine cc_store (by assumption) (by assumption) (by exact rfl) (by exact rfl) ?_); intro _ _ _; (try k_sweep)) | ((with_reducible show wpAny _ _ (eval (Expr.Name _ _) (compEnvC _ _ _ _)) _ _ _); k_dflt (refine cc_load (by assumption) (by exact rfl) ?_ (by exact rfl) (by exact rfl) (by exact rfl))) | ((with_reducible show wpAny _ _ _ _ _ _); (fail_if_success (with_reducible first | show wpAny _ _ (exec (Stmt.For _ _ _ _ _) _) _ _ _ | show wpAny _ _ (exec (Stmt.While _ _ _ _) _) _ _ _ | show wpAny _ _ (pyIter _) _ _ _ | show wpAny _ _ (call (Value.builtin "list.pop") _ _) _ _ _ | show wpAny _ _ (call (Value.builtin "str.join") _ _) _ _ _ | show wpAny _ _ (call (Value.builtin "max") _ _) _ _ _ | show wpAny _ _ (setItem _ _ _) _ _ _ | show wpAny _ _ (call (Value.builtin "str.replace") _ _) _ _ _ | show wpAny _ _ (call (Value.builtin "str.split") _ _) _ _ _ | show wpAny _ _ (call (Value.ref _) _ _) _ _ _ | show wpAny _ _ (eval (Expr.ListComp _ _ _ _) _) _ _ _ | show wpAny _ _ (exec (Stmt.Assign _ (Expr.ListComp _ _ _ _) _) _) _ _ _)); first | walk1 | (dsimp only; walk1)) | ((with_reducible show Frag.In _ _ ∧ _); (refine ⟨by k_in, ?_⟩); (try dsimp only [List.nil_append, List.cons_append])) | ((with_reducible show (if _ then _ else _)); walk1)); (try dsimp only)))
   rw [show Txt.item ⟨#[a, b]⟩ 1 = ⟨#[b]⟩ from rfl]
   refine' repl_tok ?u ?v ?uv ?yz ?x ?z ?_
   case u => omega
   case v => omega
   case uv => omega
   case yz => exact one_ne bang_lit hfb.2.2.2.2.2.2.2
   case x => omega
   case z => show 1 ≤ 100; decide
   intro u2 kk2 hkk2
   have hx2 := replace_sign x1 (Str.ofString "!") 33 b bang_lit
   generalize Txt.replace x1 (Str.ofString "!") ⟨#[b]⟩ = x2 at hx2 ⊢
   rw [hx1, two_signs hfa.2.2.2.2.2.2.2, ← hsh1] at hx2
   obtain rfl : x2 = shs := str_ext hx2
   try dsimp only at hkk2
   try dsimp only
   repeat' (first | ((with_reducible show ((_ : Nat) ≤ _ → _)); intro htk9; (try dsimp only at htk9); revert htk9; intro _) | ((with_reducible show wpAny _ _ (execs (_ :: _) _) _ _ _); refine execs_hidt (by first | omega | (dsimp only; omega)) ?_; intro _ _ htk9; (try dsimp only at htk9); revert htk9; intro _ Qk9 kH9; (try dsimp only)) | ((with_reducible show wpAny _ _ (execs [] _) _ _ _); refine wpAny_execs_nil ?_; (try dsimp only)) | ((first | (k_unfold; (try dsimp only)) | ((with_reducible show wpAny _ _ (execs (_ :: _) _) _ _ _); refine execs_hide ?_; intro Qk9 kH9; (try dsimp only)) | ((with_reducible rename Hid _ _ _ => kH9); first | (refine hid_next kH9 ?_; clear kH9; (try clear Qk9)) | (refine hid_other kH9 (by nofun) ?_; clear kH9; (try clear Qk9)); (try dsimp only)) | ((with_reducible show wpAny _ _ (eval (Expr.Name _ _) (envOfC _ _ _ _ _)) _ _ _); k_dflt (first | refine nmC_L (by exact rfl) (by exact rfl) (by exact rfl) (by assumption) (by exact rfl) ?_ | refine nmC_C (by exact rfl) (by exact rfl) (by exact rfl) (by assumption) (by exact rfl) (by k_mem) (by assumption) ?_ | refine nmC_K (by exact rfl) (by exact rfl) (by exact rfl) (by assumption) (by assumption) (by k_asm) (by k_is) ?_ | refine nmC_B (by exact rfl) (by exact rfl) (by exact rfl) (by assumption) (by assumption) (by k_asm) (by k_is) (by boot_by_name) (by decide) ?_)) | ((with_reducible show wpAny _ _ (eval (Expr.Name _ _) (compEnvC _ _ _ _)) _ _ _); k_dflt (refine cc_cell (by exact rfl) (Fr.keep (by assumption) _ _ (by assumption)) (by assumption) ?_ (by exact rfl) (by exact rfl) (by exact rfl))) | ((with_reducible show wpAny _ _ (eval (Expr.Name _ _) (compEnvC _ _ _ _)) _ _ _); k_dflt (refine cc_blt (by assumption) (by assumption) (by assumption) (by k_is) (by boot_by_name) (by decide) ?_ (by exact rfl) (by exact rfl) (by exact rfl) (by exact rfl) (by exact rfl))) | ((with_reducible show wpAny _ _ (call (Value.builtin "chr") [Value.int _ _]) _ _ _); k_dflt (refine chr_one (by assumption) ?_)) | ((with_reducible show wpAny _ _ (call (Value.builtin "ord") [Value.str _ _]) _ _ _); k_dflt (refine' ord_one ?_)) | ((with_reducible show wpAny _ _ (subscriptTail _ _ (Value.ref _) (Value.int _ _)) _ _ _); k_dflt (refine heap_item (Heap.IsList.at (by assumption) (fun o e => Fr.keep (by assumption) _ _ e)) (by omega) (by omega) (by assumption) ?_ (by exact rfl))) | ((with_reducible show wpAny _ _ (binaryOp Operator.Add (Value.str _ _) (Value.str _ _)) _ _ _); k_dflt (refine SB.add ?_ (add_fits (by walk_at "m_len") (by walk_at "m_len") (by decide +kernel)); intro _ _; (try dsimp only))) | ((with_reducible show wpAny _ _ (call (Value.builtin "len") [Value.str _ _]) _ _ _); k_dflt (refine len_str_ok (Nat.le_trans (by walk_at "m_len") (by decide +kernel)) ?_; (try dsimp only))) | ((with_reducible show wpAny _ _ (call (Value.builtin "list.append") [Value.ref _, _]) _ _ _); k_dflt (refine append_K (by k_asm) (by k_asm) (by k_upd) ?_ (by refine size_ok ?_; (try simp only [List.size_toArray]); omega); k_whole); intro _ _ _; (try k_sweep)) | ((with_reducible show wpAny _ _ (storeName (compEnvC _ _ _ _) _ _) _ _ _); k_dflt (refine cc_store (by assumption) (by assumption) (by exact rfl) (by exact rfl) ?_); intro _ _ _; (try k_sweep)) | ((with_reducible show wpAny _ _ (eval (Expr.Name _ _) (compEnvC _ _ _ _)) _ _ _); k_dflt (refine cc_load (by assumption) (by exact rfl) ?_ (by exact rfl) (by exact rfl) (by exact rfl))) | ((with_reducible show wpAny _ _ _ _ _ _); (fail_if_success (with_reducible first | show wpAny _ _ (exec (Stmt.For _ _ _ _ _) _) _ _ _ | show wpAny _ _ (exec (Stmt.While _ _ _ _) _) _ _ _ | show wpAny _ _ (pyIter _) _ _ _ | show wpAny _ _ (call (Value.builtin "list.pop") _ _) _ _ _ | show wpAny _ _ (call (Value.builtin "str.join") _ _) _ _ _ | show wpAny _ _ (call (Value.builtin "max") _ _) _ _ _ | show wpAny _ _ (setItem _ _ _) _ _ _ | show wpAny _ _ (call (Value.builtin "str.replace") _ _) _ _ _ | show wpAny _ _ (call (Value.builtin "str.split") _ _) _ _ _ | show wpAny _ _ (call (Value.ref _) _ _) _ _ _ | show wpAny _ _ (eval (Expr.ListComp _ _ _ _) _) _ _ _ | show wpAny _ _ (exec (Stmt.Assign _ (Expr.ListComp _ _ _ _) _) _) _ _ _)); first | walk1 | (dsimp only; walk1)) | ((with_reducible show Frag.In _ _ ∧ _); (refine ⟨by k_in, ?_⟩); (try dsimp only [List.nil_append, List.cons_append])) | ((with_reducible show (if _ then _ else _)); walk1)); (try dsimp only)))
   · exact absurd ‹(x2 != x2) = true› (by simp)
   refine comp_assign (h₀ := er P s.heap) (by exact rfl) (by exact rfl) (by decide) (by exact rfl) (by decide) (by exact rfl) (by exact rfl) ?_
   repeat' ((first | (k_unfold; (try dsimp only)) | ((with_reducible show wpAny _ _ (execs (_ :: _) _) _ _ _); refine execs_hide ?_; intro Qk9 kH9; (try dsimp only)) | ((with_reducible rename Hid _ _ _ => kH9); first | (refine hid_next kH9 ?_; clear kH9; (try clear Qk9)) | (refine hid_other kH9 (by nofun) ?_; clear kH9; (try clear Qk9)); (try dsimp only)) | ((with_reducible show wpAny _ _ (eval (Expr.Name _ _) (envOfC _ _ _ _ _)) _ _ _); k_dflt (first | refine nmC_L (by exact rfl) (by exact rfl) (by exact rfl) (by assumption) (by exact rfl) ?_ | refine nmC_C (by exact rfl) (by exact rfl) (by exact rfl) (by assumption) (by exact rfl) (by k_mem) (by assumption) ?_ | refine nmC_K (by exact rfl) (by exact rfl) (by exact rfl) (by assumption) (by assumption) (by k_asm) (by k_is) ?_ | refine nmC_B (by exact rfl) (by exact rfl) (by exact rfl) (by assumption) (by assumption) (by k_asm) (by k_is) (by boot_by_name) (by decide) ?_)) | ((with_reducible show wpAny _ _ (eval (Expr.Name _ _) (compEnvC _ _ _ _)) _ _ _); k_dflt (refine cc_cell (by exact rfl) (Fr.keep (by assumption) _ _ (by assumption)) (by assumption) ?_ (by exact rfl) (by exact rfl) (by exact rfl))) | ((with_reducible show wpAny _ _ (eval (Expr.Name _ _) (compEnvC _ _ _ _)) _ _ _); k_dflt (refine cc_blt (by assumption) (by assumption) (by assumption) (by k_is) (by boot_by_name) (by decide) ?_ (by exact rfl) (by exact rfl) (by exact rfl) (by exact rfl) (by exact rfl))) | ((with_reducible show wpAny _ _ (call (Value.builtin "chr") [Value.int _ _]) _ _ _); k_dflt (refine chr_one (by assumption) ?_)) | ((with_reducible show wpAny _ _ (call (Value.builtin "ord") [Value.str _ _]) _ _ _); k_dflt (refine' ord_one ?_)) | ((with_reducible show wpAny _ _ (subscriptTail _ _ (Value.ref _) (Value.int _ _)) _ _ _); k_dflt (refine heap_item (Heap.IsList.at (by assumption) (fun o e => Fr.keep (by assumption) _ _ e)) (by omega) (by omega) (by assumption) ?_ (by exact rfl))) | ((with_reducible show wpAny _ _ (binaryOp Operator.Add (Value.str _ _) (Value.str _ _)) _ _ _); k_dflt (refine SB.add ?_ (add_fits (by walk_at "m_len") (by walk_at "m_len") (by decide +kernel)); intro _ _; (try dsimp only))) | ((with_reducible show wpAny _ _ (call (Value.builtin "len") [Value.str _ _]) _ _ _); k_dflt (refine len_str_ok (Nat.le_trans (by walk_at "m_len") (by decide +kernel)) ?_; (try dsimp only))) | ((with_reducible show wpAny _ _ (call (Value.builtin "list.append") [Value.ref _, _]) _ _ _); k_dflt (refine append_K (by k_asm) (by k_asm) (by k_upd) ?_ (by refine size_ok ?_; (try simp only [List.size_toArray]); omega); k_whole); intro _ _ _; (try k_sweep)) | ((with_reducible show wpAny _ _ (storeName (compEnvC _ _ _ _) _ _) _ _ _); k_dflt (refine cc_store (by assumption) (by assumption) (by exact rfl) (by exact rfl) ?_); intro _ _ _; (try k_sweep)) | ((with_reducible show wpAny _ _ (eval (Expr.Name _ _) (compEnvC _ _ _ _)) _ _ _); k_dflt (refine cc_load (by assumption) (by exact rfl) ?_ (by exact rfl) (by exact rfl) (by exact rfl))) | ((with_reducible show wpAny _ _ _ _ _ _); (fail_if_success (with_reducible first | show wpAny _ _ (exec (Stmt.For _ _ _ _ _) _) _ _ _ | show wpAny _ _ (exec (Stmt.While _ _ _ _) _) _ _ _ | show wpAny _ _ (pyIter _) _ _ _ | show wpAny _ _ (call (Value.builtin "list.pop") _ _) _ _ _ | show wpAny _ _ (call (Value.builtin "str.join") _ _) _ _ _ | show wpAny _ _ (call (Value.builtin "max") _ _) _ _ _ | show wpAny _ _ (setItem _ _ _) _ _ _ | show wpAny _ _ (call (Value.builtin "str.replace") _ _) _ _ _ | show wpAny _ _ (call (Value.builtin "str.split") _ _) _ _ _ | show wpAny _ _ (call (Value.ref _) _ _) _ _ _ | show wpAny _ _ (eval (Expr.ListComp _ _ _ _) _) _ _ _ | show wpAny _ _ (exec (Stmt.Assign _ (Expr.ListComp _ _ _ _) _) _) _ _ _)); first | walk1 | (dsimp only; walk1)) | ((with_reducible show Frag.In _ _ ∧ _); (refine ⟨by k_in, ?_⟩); (try dsimp only [List.nil_append, List.cons_append])) | ((with_reducible show (if _ then _ else _)); walk1)); (try dsimp only))
   refine ⟨_, _, F4, N4, ?_⟩
   have hcell := (N4 _ (.tail _ (.tail _ (.head _)))).1
   try dsimp only at hcell
   refine compi_list (s := ⟨_, _, _, _, _⟩) (fun i r objs k => objs = [] ∧ ∃ q, (bnd cuts page.length)[i]? = some q ∧ ∃ t, r = some (.str (Txt.slice x2 (some q.1) (some q.2)) t)) rfl ⟨_, (N4 _ (.tail _ (.tail _ (.tail _ (.tail _ (.tail _ (.head _))))))).1, rfl, _, rfl⟩ ?_ ?_ ?_
   · rw [List.size_toArray, htup2.1, bnd_len, sizeLine_eq]; omega
   · rintro C i v h tk' m₂ olds hi hv htk2 F₁ N₁
     dsimp only at F₁ N₁
     rw [List.size_toArray, htup2.1] at hi
     obtain ⟨T2', t, u, hT, hm⟩ := htup2.2 i _ (List.getElem?_eq_getElem hi)
     have hv' : bvs[i]? = some v := by simpa using hv
     rw [hT] at hv'
     cases hv'
     have hTup : IsTup h T2' #[.int ((bnd cuts page.length)[i]).1 t, .int ((bnd cuts page.length)[i]).2 u] := ⟨_, F₁.keep _ _ (N4 _ (.tail _ (.tail _ (.tail _ (.tail _ (.tail _ (.tail _ (.tail _ hm)))))))).1, rfl, _, rfl⟩
     have hbi := bnd_mem hgp _ (List.getElem_mem hi)
     have hgi : (bnd cuts page.length)[i]? = some (bnd cuts page.length)[i] := List.getElem?_eq_getElem hi
     generalize (bnd cuts page.length)[i] = q at hTup hbi hgi ⊢
     obtain ⟨qa, qb⟩ := q
     dsimp only at hTup hbi
     clear F4 N4 hT hm hv hoff
     refine unpackN_ F₁ N₁ hTup rfl (by exact rfl) (by exact rfl) ?_
     intro h8 F8 N8
     try dsimp only
     repeat' ((first | (k_unfold; (try dsimp only)) | ((with_reducible show wpAny _ _ (execs (_ :: _) _) _ _ _); refine execs_hide ?_; intro Qk9 kH9; (try dsimp only)) | ((with_reducible rename Hid _ _ _ => kH9); first | (refine hid_next kH9 ?_; clear kH9; (try clear Qk9)) | (refine hid_other kH9 (by nofun) ?_; clear kH9; (try clear Qk9)); (try dsimp only)) | ((with_reducible show wpAny _ _ (eval (Expr.Name _ _) (envOfC _ _ _ _ _)) _ _ _); k_dflt (first | refine nmC_L (by exact rfl) (by exact rfl) (by exact rfl) (by assumption) (by exact rfl) ?_ | refine nmC_C (by exact rfl) (by exact rfl) (by exact rfl) (by assumption) (by exact rfl) (by k_mem) (by assumption) ?_ | refine nmC_K (by exact rfl) (by exact rfl) (by exact rfl) (by assumption) (by assumption) (by k_asm) (by k_is) ?_ | refine nmC_B (by exact rfl) (by exact rfl) (by exact rfl) (by assumption) (by assumption) (by k_asm) (by k_is) (by boot_by_name) (by decide) ?_)) | ((with_reducible show wpAny _ _ (eval (Expr.Name _ _) (compEnvC _ _ _ _)) _ _ _); k_dflt (refine cc_cell (by exact rfl) (Fr.keep (by assumption) _ _ (by assumption)) (by assumption) ?_ (by exact rfl) (by exact rfl) (by exact rfl))) | ((with_reducible show wpAny _ _ (eval (Expr.Name _ _) (compEnvC _ _ _ _)) _ _ _); k_dflt (refine cc_blt (by assumption) (by assumption) (by assumption) (by k_is) (by boot_by_name) (by decide) ?_ (by exact rfl) (by exact rfl) (by exact rfl) (by exact rfl) (by exact rfl))) | ((with_reducible show wpAny _ _ (call (Value.builtin "chr") [Value.int _ _]) _ _ _); k_dflt (refine chr_one (by assumption) ?_)) | ((with_reducible show wpAny _ _ (call (Value.builtin "ord") [Value.str _ _]) _ _ _); k_dflt (refine' ord_one ?_)) | ((with_reducible show wpAny _ _ (subscriptTail _ _ (Value.ref _) (Value.int _ _)) _ _ _); k_dflt (refine heap_item (Heap.IsList.at (by assumption) (fun o e => Fr.keep (by assumption) _ _ e)) (by omega) (by omega) (by assumption) ?_ (by exact rfl))) | ((with_reducible show wpAny _ _ (binaryOp Operator.Add (Value.str _ _) (Value.str _ _)) _ _ _); k_dflt (refine SB.add ?_ (add_fits (by walk_at "m_len") (by walk_at "m_len") (by decide +kernel)); intro _ _; (try dsimp only))) | ((with_reducible show wpAny _ _ (call (Value.builtin "len") [Value.str _ _]) _ _ _); k_dflt (refine len_str_ok (Nat.le_trans (by walk_at "m_len") (by decide +kernel)) ?_; (try dsimp only))) | ((with_reducible show wpAny _ _ (call (Value.builtin "list.append") [Value.ref _, _]) _ _ _); k_dflt (refine append_K (by k_asm) (by k_asm) (by k_upd) ?_ (by refine size_ok ?_; (try simp only [List.size_toArray]); omega); k_whole); intro _ _ _; (try k_sweep)) | ((with_reducible show wpAny _ _ (storeName (compEnvC _ _ _ _) _ _) _ _ _); k_dflt (refine cc_store (by assumption) (by assumption) (by exact rfl) (by exact rfl) ?_); intro _ _ _; (try k_sweep)) | ((with_reducible show wpAny _ _ (eval (Expr.Name _ _) (compEnvC _ _ _ _)) _ _ _); k_dflt (refine cc_load (by assumption) (by exact rfl) ?_ (by exact rfl) (by exact rfl) (by exact rfl))) | ((with_reducible show wpAny _ _ _ _ _ _); (fail_if_success (with_reducible first | show wpAny _ _ (exec (Stmt.For _ _ _ _ _) _) _ _ _ | show wpAny _ _ (exec (Stmt.While _ _ _ _) _) _ _ _ | show wpAny _ _ (pyIter _) _ _ _ | show wpAny _ _ (call (Value.builtin "list.pop") _ _) _ _ _ | show wpAny _ _ (call (Value.builtin "str.join") _ _) _ _ _ | show wpAny _ _ (call (Value.builtin "max") _ _) _ _ _ | show wpAny _ _ (setItem _ _ _) _ _ _ | show wpAny _ _ (call (Value.builtin "str.replace") _ _) _ _ _ | show wpAny _ _ (call (Value.builtin "str.split") _ _) _ _ _ | show wpAny _ _ (call (Value.ref _) _ _) _ _ _ | show wpAny _ _ (eval (Expr.ListComp _ _ _ _) _) _ _ _ | show wpAny _ _ (exec (Stmt.Assign _ (Expr.ListComp _ _ _ _) _) _) _ _ _)); first | walk1 | (dsimp only; walk1)) | ((with_reducible show Frag.In _ _ ∧ _); (refine ⟨by k_in, ?_⟩); (try dsimp only [List.nil_append, List.cons_append])) | ((with_reducible show (if _ then _ else _)); walk1)); (try dsimp only))
     exact ⟨_, _, _, [], rfl, ‹Fr _ _ _ _›, ‹News _ _ _ _›, (fun p hp => nomatch hp), rfl, (qa, qb), hgi, _, rfl⟩
   intro h6 D6 h7 tk7 rs6 k6 hD6 hdis6 htk6 hlen6 hEl6 F5 N5
   have hts := strs_cut (x := x2) (qs := bnd cuts page.length) (rs := rs6) (by rw [hlen6, List.size_toArray, htup2.1]) (fun j r hr => by
     obtain ⟨_, _, _, h2⟩ := hEl6 j r hr
     exact h2)
   have hDP : @LT.lt Nat _ P D6 := hD6 _ (.tail _ (.head _))
   have hDI : @LT.lt Nat _ I D6 := hD6 _ (.head _)
   have N6 : News (er P s.heap) s.heap.objs.size h7 ((P, tabObj ps) :: (D6, W.listOf (List.filterMap (fun x => x.1) rs6).toArray k6) :: (I, oI) :: (s.heap.objs.size + 1 + 1 + 1 + 1 + 1, osh) :: (atr, W.listOf [Value.ref T1, Value.ref T2, Value.ref T3].toArray 1) :: (ast, W.listOf sts.toArray sk) :: (D10, W.listOf bvs.toArray k10) :: (s.heap.objs.size + 1, opg) :: tl2) := fun q hq => N5 q (by
     simp only [List.mem_cons, List.mem_append] at hq ⊢
     rcases hq with h | h | h | h | h | h | h | h | h <;> simp [h])
   have hoffR : ∀ q ∈ ((I, oI) :: (s.heap.objs.size + 1 + 1 + 1 + 1 + 1, osh) :: (atr, W.listOf [Value.ref T1, Value.ref T2, Value.ref T3].toArray 1) :: (ast, W.listOf sts.toArray sk) :: (D10, W.listOf bvs.toArray k10) :: (s.heap.objs.size + 1, opg) :: tl2 : List (Addr × Obj)), q.1 ≠ P := all_cons (neN (fun e => hIP e.symm)) (off_map (by rfl) hoff2)
   generalize hLR : ((I, oI) :: (s.heap.objs.size + 1 + 1 + 1 + 1 + 1, osh) :: (atr, W.listOf [Value.ref T1, Value.ref T2, Value.ref T3].toArray 1) :: (ast, W.listOf sts.toArray sk) :: (D10, W.listOf bvs.toArray k10) :: (s.heap.objs.size + 1, opg) :: tl2 : List (Addr × Obj)) = LR at N6 hoffR
   have hmS : (ast, W.listOf sts.toArray sk) ∈ LR := by rw [← hLR]; exact .tail _ (.tail _ (.tail _ (.head _)))
   clear hEl6 hD6 hdis6 N5 hlen6 F4 N4
   generalize rs6.filterMap (·.1) = tvs at hts N6
   obtain ⟨hq1, hq2, hq3⟩ := told_start hgp ha hb hsh1 hshl
   have hq4 : (Str.join (Str.ofString "-") (nonE ((bnd cuts page.length).map (fun q => Txt.slice x2 (some q.1) (some q.2))))).length ≤ 400 := by rw [len_list, hq3, List.length_map]; exact Nat.le_trans (joined_len hgp) (by decide)
   rw [← hjn] at hq3
   have hq5 := pj_zero ha hb hJm
   rw [← hq3] at hq5
   have hq6 : ((bnd cuts page.length).map (fun q => Txt.slice x2 (some q.1) (some q.2))).length ≤ 100 := by rw [List.length_map, bnd_len]; omega
   generalize (bnd cuts page.length).map (fun q => Txt.slice x2 (some q.1) (some q.2)) = ts at hts hq1 hq2 hq4 hq5 hq6
   clear hq3
   change Fr (er P s.heap) s.heap.objs.size h7 _ at F5
   try dsimp only
   repeat' (first | ((with_reducible show ((_ : Nat) ≤ _ → _)); intro htk9; (try dsimp only at htk9); revert htk9; intro _) | ((with_reducible show wpAny _ _ (execs (_ :: _) _) _ _ _); refine execs_hidt (by first | omega | (dsimp only; omega)) ?_; intro _ _ htk9; (try dsimp only at htk9); revert htk9; intro _ Qk9 kH9; (try dsimp only)) | ((with_reducible show wpAny _ _ (execs [] _) _ _ _); refine wpAny_execs_nil ?_; (try dsimp only)) | ((first | (k_unfold; (try dsimp only)) | ((with_reducible show wpAny _ _ (execs (_ :: _) _) _ _ _); refine execs_hide ?_; intro Qk9 kH9; (try dsimp only)) | ((with_reducible rename Hid _ _ _ => kH9); first | (refine hid_next kH9 ?_; clear kH9; (try clear Qk9)) | (refine hid_other kH9 (by nofun) ?_; clear kH9; (try clear Qk9)); (try dsimp only)) | ((with_reducible show wpAny _ _ (eval (Expr.Name _ _) (envOfC _ _ _ _ _)) _ _ _); k_dflt (first | refine nmC_L (by exact rfl) (by exact rfl) (by exact rfl) (by assumption) (by exact rfl) ?_ | refine nmC_C (by exact rfl) (by exact rfl) (by exact rfl) (by assumption) (by exact rfl) (by k_mem) (by assumption) ?_ | refine nmC_K (by exact rfl) (by exact rfl) (by exact rfl) (by assumption) (by assumption) (by k_asm) (by k_is) ?_ | refine nmC_B (by exact rfl) (by exact rfl) (by exact rfl) (by assumption) (by assumption) (by k_asm) (by k_is) (by boot_by_name) (by decide) ?_)) | ((with_reducible show wpAny _ _ (eval (Expr.Name _ _) (compEnvC _ _ _ _)) _ _ _); k_dflt (refine cc_cell (by exact rfl) (Fr.keep (by assumption) _ _ (by assumption)) (by assumption) ?_ (by exact rfl) (by exact rfl) (by exact rfl))) | ((with_reducible show wpAny _ _ (eval (Expr.Name _ _) (compEnvC _ _ _ _)) _ _ _); k_dflt (refine cc_blt (by assumption) (by assumption) (by assumption) (by k_is) (by boot_by_name) (by decide) ?_ (by exact rfl) (by exact rfl) (by exact rfl) (by exact rfl) (by exact rfl))) | ((with_reducible show wpAny _ _ (call (Value.builtin "chr") [Value.int _ _]) _ _ _); k_dflt (refine chr_one (by assumption) ?_)) | ((with_reducible show wpAny _ _ (call (Value.builtin "ord") [Value.str _ _]) _ _ _); k_dflt (refine' ord_one ?_)) | ((with_reducible show wpAny _ _ (subscriptTail _ _ (Value.ref _) (Value.int _ _)) _ _ _); k_dflt (refine heap_item (Heap.IsList.at (by assumption) (fun o e => Fr.keep (by assumption) _ _ e)) (by omega) (by omega) (by assumption) ?_ (by exact rfl))) | ((with_reducible show wpAny _ _ (binaryOp Operator.Add (Value.str _ _) (Value.str _ _)) _ _ _); k_dflt (refine SB.add ?_ (add_fits (by walk_at "m_len") (by walk_at "m_len") (by decide +kernel)); intro _ _; (try dsimp only))) | ((with_reducible show wpAny _ _ (call (Value.builtin "len") [Value.str _ _]) _ _ _); k_dflt (refine len_str_ok (Nat.le_trans (by walk_at "m_len") (by decide +kernel)) ?_; (try dsimp only))) | ((with_reducible show wpAny _ _ (call (Value.builtin "list.append") [Value.ref _, _]) _ _ _); k_dflt (refine append_K (by k_asm) (by k_asm) (by k_upd) ?_ (by refine size_ok ?_; (try simp only [List.size_toArray]); omega); k_whole); intro _ _ _; (try k_sweep)) | ((with_reducible show wpAny _ _ (storeName (compEnvC _ _ _ _) _ _) _ _ _); k_dflt (refine cc_store (by assumption) (by assumption) (by exact rfl) (by exact rfl) ?_); intro _ _ _; (try k_sweep)) | ((with_reducible show wpAny _ _ (eval (Expr.Name _ _) (compEnvC _ _ _ _)) _ _ _); k_dflt (refine cc_load (by assumption) (by exact rfl) ?_ (by exact rfl) (by exact rfl) (by exact rfl))) | ((with_reducible show wpAny _ _ _ _ _ _); (fail_if_success (with_reducible first | show wpAny _ _ (exec (Stmt.For _ _ _ _ _) _) _ _ _ | show wpAny _ _ (exec (Stmt.While _ _ _ _) _) _ _ _ | show wpAny _ _ (pyIter _) _ _ _ | show wpAny _ _ (call (Value.builtin "list.pop") _ _) _ _ _ | show wpAny _ _ (call (Value.builtin "str.join") _ _) _ _ _ | show wpAny _ _ (call (Value.builtin "max") _ _) _ _ _ | show wpAny _ _ (setItem _ _ _) _ _ _ | show wpAny _ _ (call (Value.builtin "str.replace") _ _) _ _ _ | show wpAny _ _ (call (Value.builtin "str.split") _ _) _ _ _ | show wpAny _ _ (call (Value.ref _) _ _) _ _ _ | show wpAny _ _ (eval (Expr.ListComp _ _ _ _) _) _ _ _ | show wpAny _ _ (exec (Stmt.Assign _ (Expr.ListComp _ _ _ _) _) _) _ _ _)); first | walk1 | (dsimp only; walk1)) | ((with_reducible show Frag.In _ _ ∧ _); (refine ⟨by k_in, ?_⟩); (try dsimp only [List.nil_append, List.cons_append])) | ((with_reducible show (if _ then _ else _)); walk1)); (try dsimp only)))
   --CUT
   refine for_inv (h₀ := er P s.heap) ?_
   repeat' ((first | (k_unfold; (try dsimp only)) | ((with_reducible show wpAny _ _ (execs (_ :: _) _) _ _ _); refine execs_hide ?_; intro Qk9 kH9; (try dsimp only)) | ((with_reducible rename Hid _ _ _ => kH9); first | (refine hid_next kH9 ?_; clear kH9; (try clear Qk9)) | (refine hid_other kH9 (by nofun) ?_; clear kH9; (try clear Qk9)); (try dsimp only)) | ((with_reducible show wpAny _ _ (eval (Expr.Name _ _) (envOfC _ _ _ _ _)) _ _ _); k_dflt (first | refine nmC_L (by exact rfl) (by exact rfl) (by exact rfl) (by assumption) (by exact rfl) ?_ | refine nmC_C (by exact rfl) (by exact rfl) (by exact rfl) (by assumption) (by exact rfl) (by k_mem) (by assumption) ?_ | refine nmC_K (by exact rfl) (by exact rfl) (by exact rfl) (by assumption) (by assumption) (by k_asm) (by k_is) ?_ | refine nmC_B (by exact rfl) (by exact rfl) (by exact rfl) (by assumption) (by assumption) (by k_asm) (by k_is) (by boot_by_name) (by decide) ?_)) | ((with_reducible show wpAny _ _ (eval (Expr.Name _ _) (compEnvC _ _ _ _)) _ _ _); k_dflt (refine cc_cell (by exact rfl) (Fr.keep (by assumption) _ _ (by assumption)) (by assumption) ?_ (by exact rfl) (by exact rfl) (by exact rfl))) | ((with_reducible show wpAny _ _ (eval (Expr.Name _ _) (compEnvC _ _ _ _)) _ _ _); k_dflt (refine cc_blt (by assumption) (by assumption) (by assumption) (by k_is) (by boot_by_name) (by decide) ?_ (by exact rfl) (by exact rfl) (by exact rfl) (by exact rfl) (by exact rfl))) | ((with_reducible show wpAny _ _ (call (Value.builtin "chr") [Value.int _ _]) _ _ _); k_dflt (refine chr_one (by assumption) ?_)) | ((with_reducible show wpAny _ _ (call (Value.builtin "ord") [Value.str _ _]) _ _ _); k_dflt (refine' ord_one ?_)) | ((with_reducible show wpAny _ _ (subscriptTail _ _ (Value.ref _) (Value.int _ _)) _ _ _); k_dflt (refine heap_item (Heap.IsList.at (by assumption) (fun o e => Fr.keep (by assumption) _ _ e)) (by omega) (by omega) (by assumption) ?_ (by exact rfl))) | ((with_reducible show wpAny _ _ (binaryOp Operator.Add (Value.str _ _) (Value.str _ _)) _ _ _); k_dflt (refine SB.add ?_ (add_fits (by walk_at "m_len") (by walk_at "m_len") (by decide +kernel)); intro _ _; (try dsimp only))) | ((with_reducible show wpAny _ _ (call (Value.builtin "len") [Value.str _ _]) _ _ _); k_dflt (refine len_str_ok (Nat.le_trans (by walk_at "m_len") (by decide +kernel)) ?_; (try dsimp only))) | ((with_reducible show wpAny _ _ (call (Value.builtin "list.append") [Value.ref _, _]) _ _ _); k_dflt (refine append_K (by k_asm) (by k_asm) (by k_upd) ?_ (by refine size_ok ?_; (try simp only [List.size_toArray]); omega); k_whole); intro _ _ _; (try k_sweep)) | ((with_reducible show wpAny _ _ (storeName (compEnvC _ _ _ _) _ _) _ _ _); k_dflt (refine cc_store (by assumption) (by assumption) (by exact rfl) (by exact rfl) ?_); intro _ _ _; (try k_sweep)) | ((with_reducible show wpAny _ _ (eval (Expr.Name _ _) (compEnvC _ _ _ _)) _ _ _); k_dflt (refine cc_load (by assumption) (by exact rfl) ?_ (by exact rfl) (by exact rfl) (by exact rfl))) | ((with_reducible show wpAny _ _ _ _ _ _); (fail_if_success (with_reducible first | show wpAny _ _ (exec (Stmt.For _ _ _ _ _) _) _ _ _ | show wpAny _ _ (exec (Stmt.While _ _ _ _) _) _ _ _ | show wpAny _ _ (pyIter _) _ _ _ | show wpAny _ _ (call (Value.builtin "list.pop") _ _) _ _ _ | show wpAny _ _ (call (Value.builtin "str.join") _ _) _ _ _ | show wpAny _ _ (call (Value.builtin "max") _ _) _ _ _ | show wpAny _ _ (setItem _ _ _) _ _ _ | show wpAny _ _ (call (Value.builtin "str.replace") _ _) _ _ _ | show wpAny _ _ (call (Value.builtin "str.split") _ _) _ _ _ | show wpAny _ _ (call (Value.ref _) _ _) _ _ _ | show wpAny _ _ (eval (Expr.ListComp _ _ _ _) _) _ _ _ | show wpAny _ _ (exec (Stmt.Assign _ (Expr.ListComp _ _ _ _) _) _) _ _ _)); first | walk1 | (dsimp only; walk1)) | ((with_reducible show Frag.In _ _ ∧ _); (refine ⟨by k_in, ?_⟩); (try dsimp only [List.nil_append, List.cons_append])) | ((with_reducible show (if _ then _ else _)); walk1)); (try dsimp only))
   refine iter_list (fun j g' m₁ news₁ => ∃ ps Dt tvs ts kt, TriplesOk ps.toList ∧ (∀ q ∈ [(Str.ofString "told", Value.ref Dt), (Str.ofString "pair", Value.str ⟨#[a, b]⟩ ta), (Str.ofString "stages", Value.ref ast), (Str.ofString "bounds", Value.ref D10)], m₁ q.1 = some q.2) ∧
     news₁ = (P, tabObj ps) :: (Dt, W.listOf tvs.toArray kt) :: LR ∧ @LT.lt Nat _ P Dt ∧ AllBare g' ∧ StrsAre tvs ts ∧ (∀ t ∈ ts, t.length ≤ 300) ∧ (∀ t ∈ ts, ∀ c ∈ t.cps.toList, 33 ≤ c ∧ c < 127) ∧ (Str.join (Str.ofString "-") (nonE ts)).length ≤ 400 ∧ PJ a b jn.cps.toList j (Str.join (Str.ofString "-") (nonE ts)).cps.toList ∧ ts.length ≤ 100) rfl
     ⟨_, (N6 _ (.tail _ (.tail _ hmS))).1, rfl, _, rfl⟩ (.inr ⟨W.listOf sts.toArray sk, by rintro i g m₁ news₁ ⟨ps, Dt, tvs, ts, kt, _, _, rfl, _⟩; exact .tail _ (.tail _ hmS)⟩) F5 N6 ?_ ?_ ?_
   · exact ⟨ps, D6, tvs, ts, k6, hps, by kst_all, rfl, hDP, hG, hts, hq1, hq2, hq4, hq5, hq6⟩
   rotate_left
   · intro h40 tk40 g40 m40 news40 hle40 F40 N40 hJ
     obtain ⟨ps40, Dt, tvs', ts', kt, hps40, hm40, rfl, _, hG40, _⟩ := hJ
     try dsimp only
     repeat' (first | ((with_reducible show ((_ : Nat) ≤ _ → _)); intro htk9; (try dsimp only at htk9); revert htk9; intro _) | ((with_reducible show wpAny _ _ (execs (_ :: _) _) _ _ _); refine execs_hidt (by first | omega | (dsimp only; omega)) ?_; intro _ _ htk9; (try dsimp only at htk9); revert htk9; intro _ Qk9 kH9; (try dsimp only)) | ((with_reducible show wpAny _ _ (execs [] _) _ _ _); refine wpAny_execs_nil ?_; (try dsimp only)) | ((first | (k_unfold; (try dsimp only)) | ((with_reducible show wpAny _ _ (execs (_ :: _) _) _ _ _); refine execs_hide ?_; intro Qk9 kH9; (try dsimp only)) | ((with_reducible rename Hid _ _ _ => kH9); first | (refine hid_next kH9 ?_; clear kH9; (try clear Qk9)) | (refine hid_other kH9 (by nofun) ?_; clear kH9; (try clear Qk9)); (try dsimp only)) | ((with_reducible show wpAny _ _ (eval (Expr.Name _ _) (envOfC _ _ _ _ _)) _ _ _); k_dflt (first | refine nmC_L (by exact rfl) (by exact rfl) (by exact rfl) (by assumption) (by exact rfl) ?_ | refine nmC_C (by exact rfl) (by exact rfl) (by exact rfl) (by assumption) (by exact rfl) (by k_mem) (by assumption) ?_ | refine nmC_K (by exact rfl) (by exact rfl) (by exact rfl) (by assumption) (by assumption) (by k_asm) (by k_is) ?_ | refine nmC_B (by exact rfl) (by exact rfl) (by exact rfl) (by assumption) (by assumption) (by k_asm) (by k_is) (by boot_by_name) (by decide) ?_)) | ((with_reducible show wpAny _ _ (eval (Expr.Name _ _) (compEnvC _ _ _ _)) _ _ _); k_dflt (refine cc_cell (by exact rfl) (Fr.keep (by assumption) _ _ (by assumption)) (by assumption) ?_ (by exact rfl) (by exact rfl) (by exact rfl))) | ((with_reducible show wpAny _ _ (eval (Expr.Name _ _) (compEnvC _ _ _ _)) _ _ _); k_dflt (refine cc_blt (by assumption) (by assumption) (by assumption) (by k_is) (by boot_by_name) (by decide) ?_ (by exact rfl) (by exact rfl) (by exact rfl) (by exact rfl) (by exact rfl))) | ((with_reducible show wpAny _ _ (call (Value.builtin "chr") [Value.int _ _]) _ _ _); k_dflt (refine chr_one (by assumption) ?_)) | ((with_reducible show wpAny _ _ (call (Value.builtin "ord") [Value.str _ _]) _ _ _); k_dflt (refine' ord_one ?_)) | ((with_reducible show wpAny _ _ (subscriptTail _ _ (Value.ref _) (Value.int _ _)) _ _ _); k_dflt (refine heap_item (Heap.IsList.at (by assumption) (fun o e => Fr.keep (by assumption) _ _ e)) (by omega) (by omega) (by assumption) ?_ (by exact rfl))) | ((with_reducible show wpAny _ _ (binaryOp Operator.Add (Value.str _ _) (Value.str _ _)) _ _ _); k_dflt (refine SB.add ?_ (add_fits (by walk_at "m_len") (by walk_at "m_len") (by decide +kernel)); intro _ _; (try dsimp only))) | ((with_reducible show wpAny _ _ (call (Value.builtin "len") [Value.str _ _]) _ _ _); k_dflt (refine len_str_ok (Nat.le_trans (by walk_at "m_len") (by decide +kernel)) ?_; (try dsimp only))) | ((with_reducible show wpAny _ _ (call (Value.builtin "list.append") [Value.ref _, _]) _ _ _); k_dflt (refine append_K (by k_asm) (by k_asm) (by k_upd) ?_ (by refine size_ok ?_; (try simp only [List.size_toArray]); omega); k_whole); intro _ _ _; (try k_sweep)) | ((with_reducible show wpAny _ _ (storeName (compEnvC _ _ _ _) _ _) _ _ _); k_dflt (refine cc_store (by assumption) (by assumption) (by exact rfl) (by exact rfl) ?_); intro _ _ _; (try k_sweep)) | ((with_reducible show wpAny _ _ (eval (Expr.Name _ _) (compEnvC _ _ _ _)) _ _ _); k_dflt (refine cc_load (by assumption) (by exact rfl) ?_ (by exact rfl) (by exact rfl) (by exact rfl))) | ((with_reducible show wpAny _ _ _ _ _ _); (fail_if_success (with_reducible first | show wpAny _ _ (exec (Stmt.For _ _ _ _ _) _) _ _ _ | show wpAny _ _ (exec (Stmt.While _ _ _ _) _) _ _ _ | show wpAny _ _ (pyIter _) _ _ _ | show wpAny _ _ (call (Value.builtin "list.pop") _ _) _ _ _ | show wpAny _ _ (call (Value.builtin "str.join") _ _) _ _ _ | show wpAny _ _ (call (Value.builtin "max") _ _) _ _ _ | show wpAny _ _ (setItem _ _ _) _ _ _ | show wpAny _ _ (call (Value.builtin "str.replace") _ _) _ _ _ | show wpAny _ _ (call (Value.builtin "str.split") _ _) _ _ _ | show wpAny _ _ (call (Value.ref _) _ _) _ _ _ | show wpAny _ _ (eval (Expr.ListComp _ _ _ _) _) _ _ _ | show wpAny _ _ (exec (Stmt.Assign _ (Expr.ListComp _ _ _ _) _) _) _ _ _)); first | walk1 | (dsimp only; walk1)) | ((with_reducible show Frag.In _ _ ∧ _); (refine ⟨by k_in, ?_⟩); (try dsimp only [List.nil_append, List.cons_append])) | ((with_reducible show (if _ then _ else _)); walk1)); (try dsimp only)))
     refine ⟨_, _, _, _, _, rfl, F40, fun q hq => N40 q ?_, by exact off_map (by rfl) hoff, ps40, osh, _, hps40, dosh, fun q hq => hm40 q ?_, rfl, hG40⟩
     · rw [← hLR]
       simp only [List.mem_cons] at hq ⊢
       rcases hq with h | h | h | h | h | h | h | h <;> simp [h]
     · simp only [List.mem_cons] at hq ⊢
       rcases hq with h | h | h <;> simp [h]
   rintro I2 j v m₂ news₂ g' h' tk' oI2 hj hv2 ⟨ps', Dt, tvs', ts', kt, hps', hm', rfl, hlt, hG', hts', hp1, hp2, hp4, hp5, hp6⟩ hoff' htk' F₁ N₁
   obtain ⟨sx, st, hsx, rfl⟩ := strs_at hss hv2
   replace htk' : 1 ≤ tk' := by dsimp only at htk'; omega
   replace F₁ := fr_kst _ F₁ hm'
   simp only [kstB] at F₁
   change Fr (er P s.heap) s.heap.objs.size h' _ at F₁
   change News (er P s.heap) s.heap.objs.size h' _ at N₁
   try dsimp only
   repeat' (first | ((with_reducible show ((_ : Nat) ≤ _ → _)); intro htk9; (try dsimp only at htk9); revert htk9; intro _) | ((with_reducible show wpAny _ _ (execs (_ :: _) _) _ _ _); refine execs_hidt (by first | omega | (dsimp only; omega)) ?_; intro _ _ htk9; (try dsimp only at htk9); revert htk9; intro _ Qk9 kH9; (try dsimp only)) | ((with_reducible show wpAny _ _ (execs [] _) _ _ _); refine wpAny_execs_nil ?_; (try dsimp only)) | ((first | (k_unfold; (try dsimp only)) | ((with_reducible show wpAny _ _ (execs (_ :: _) _) _ _ _); refine execs_hide ?_; intro Qk9 kH9; (try dsimp only)) | ((with_reducible rename Hid _ _ _ => kH9); first | (refine hid_next kH9 ?_; clear kH9; (try clear Qk9)) | (refine hid_other kH9 (by nofun) ?_; clear kH9; (try clear Qk9)); (try dsimp only)) | ((with_reducible show wpAny _ _ (eval (Expr.Name _ _) (envOfC _ _ _ _ _)) _ _ _); k_dflt (first | refine nmC_L (by exact rfl) (by exact rfl) (by exact rfl) (by assumption) (by exact rfl) ?_ | refine nmC_C (by exact rfl) (by exact rfl) (by exact rfl) (by assumption) (by exact rfl) (by k_mem) (by assumption) ?_ | refine nmC_K (by exact rfl) (by exact rfl) (by exact rfl) (by assumption) (by assumption) (by k_asm) (by k_is) ?_ | refine nmC_B (by exact rfl) (by exact rfl) (by exact rfl) (by assumption) (by assumption) (by k_asm) (by k_is) (by boot_by_name) (by decide) ?_)) | ((with_reducible show wpAny _ _ (eval (Expr.Name _ _) (compEnvC _ _ _ _)) _ _ _); k_dflt (refine cc_cell (by exact rfl) (Fr.keep (by assumption) _ _ (by assumption)) (by assumption) ?_ (by exact rfl) (by exact rfl) (by exact rfl))) | ((with_reducible show wpAny _ _ (eval (Expr.Name _ _) (compEnvC _ _ _ _)) _ _ _); k_dflt (refine cc_blt (by assumption) (by assumption) (by assumption) (by k_is) (by boot_by_name) (by decide) ?_ (by exact rfl) (by exact rfl) (by exact rfl) (by exact rfl) (by exact rfl))) | ((with_reducible show wpAny _ _ (call (Value.builtin "chr") [Value.int _ _]) _ _ _); k_dflt (refine chr_one (by assumption) ?_)) | ((with_reducible show wpAny _ _ (call (Value.builtin "ord") [Value.str _ _]) _ _ _); k_dflt (refine' ord_one ?_)) | ((with_reducible show wpAny _ _ (subscriptTail _ _ (Value.ref _) (Value.int _ _)) _ _ _); k_dflt (refine heap_item (Heap.IsList.at (by assumption) (fun o e => Fr.keep (by assumption) _ _ e)) (by omega) (by omega) (by assumption) ?_ (by exact rfl))) | ((with_reducible show wpAny _ _ (binaryOp Operator.Add (Value.str _ _) (Value.str _ _)) _ _ _); k_dflt (refine SB.add ?_ (add_fits (by walk_at "m_len") (by walk_at "m_len") (by decide +kernel)); intro _ _; (try dsimp only))) | ((with_reducible show wpAny _ _ (call (Value.builtin "len") [Value.str _ _]) _ _ _); k_dflt (refine len_str_ok (Nat.le_trans (by walk_at "m_len") (by decide +kernel)) ?_; (try dsimp only))) | ((with_reducible show wpAny _ _ (call (Value.builtin "list.append") [Value.ref _, _]) _ _ _); k_dflt (refine append_K (by k_asm) (by k_asm) (by k_upd) ?_ (by refine size_ok ?_; (try simp only [List.size_toArray]); omega); k_whole); intro _ _ _; (try k_sweep)) | ((with_reducible show wpAny _ _ (storeName (compEnvC _ _ _ _) _ _) _ _ _); k_dflt (refine cc_store (by assumption) (by assumption) (by exact rfl) (by exact rfl) ?_); intro _ _ _; (try k_sweep)) | ((with_reducible show wpAny _ _ (eval (Expr.Name _ _) (compEnvC _ _ _ _)) _ _ _); k_dflt (refine cc_load (by assumption) (by exact rfl) ?_ (by exact rfl) (by exact rfl) (by exact rfl))) | ((with_reducible show wpAny _ _ _ _ _ _); (fail_if_success (with_reducible first | show wpAny _ _ (exec (Stmt.For _ _ _ _ _) _) _ _ _ | show wpAny _ _ (exec (Stmt.While _ _ _ _) _) _ _ _ | show wpAny _ _ (pyIter _) _ _ _ | show wpAny _ _ (call (Value.builtin "list.pop") _ _) _ _ _ | show wpAny _ _ (call (Value.builtin "str.join") _ _) _ _ _ | show wpAny _ _ (call (Value.builtin "max") _ _) _ _ _ | show wpAny _ _ (setItem _ _ _) _ _ _ | show wpAny _ _ (call (Value.builtin "str.replace") _ _) _ _ _ | show wpAny _ _ (call (Value.builtin "str.split") _ _) _ _ _ | show wpAny _ _ (call (Value.ref _) _ _) _ _ _ | show wpAny _ _ (eval (Expr.ListComp _ _ _ _) _) _ _ _ | show wpAny _ _ (exec (Stmt.Assign _ (Expr.ListComp _ _ _ _) _) _) _ _ _)); first | walk1 | (dsimp only; walk1)) | ((with_reducible show Frag.In _ _ ∧ _); (refine ⟨by k_in, ?_⟩); (try dsimp only [List.nil_append, List.cons_append])) | ((with_reducible show (if _ then _ else _)); walk1)); (try dsimp only)))
   (rename Fr _ _ _ _ => F7)
   (rename News _ _ _ _ => N7)
   have htl := strs_len hts'
   refine star_seq F7 N7 (.tail _ (.tail _ (.head _))) rfl rfl (.inl rfl) (ws := tvs') rfl (by rw [List.size_toArray, sizeLine_eq]; omega) ?_
   intro h8 F8 N8
   refine ⟨Xe.keeps F8.keep, ?_⟩
   rw [List.nil_append]
   refine wpAny_call (platform_call (P := P) (ts := ts') (Xe.keeps F8.keep) (Te.keeps F8.keep) (tab_in TB hps' (fr_off F8) (N8 _ (.tail _ (.head _))).1) (BMe.keeps F8.keep) ?_ ?_ rfl ?_ hG' hts' (by omega) hp2 hp1 hp4 ?_)
   · show callerA.depth + 1 < 600; decide +kernel
   · show callerA.units + 3 + 100 < cLine; decide +kernel
   · dsimp only; omega
   intro h9 g9 tk9 r rt hk9 TB9 hG9 htk9 hr
   try dsimp only at hk9 htk9
   have hr' : r.cps.toList = nameL a b (stage jn.cps.toList (rrun jn.cps.toList jn.cps.toList.length).rounds (j + 1)) := hr.trans hp5
   have hIP2 := neN (hoff' _ (.head _))
   obtain ⟨ps9, hps9, F9, N9⟩ := plat_step (ps := ps') (led := (I2, oI2) :: (Dt, W.listOf tvs'.toArray kt) :: LR) F8 (fun q hq => N8 q (by
     simp only [List.mem_cons] at hq ⊢
     rcases hq with h | h | h | h <;> simp [h])) (all_cons (neN (fun e => hIP2 e.symm)) (all_cons (neN (Nat.ne_of_gt hlt)) hoffR)) hk9 TB9
   clear F7 N7 F8 N8 hr hk9 TB9
   try dsimp only
   repeat' (first | ((with_reducible show ((_ : Nat) ≤ _ → _)); intro htk9; (try dsimp only at htk9); revert htk9; intro _) | ((with_reducible show wpAny _ _ (execs (_ :: _) _) _ _ _); refine execs_hidt (by first | omega | (dsimp only; omega)) ?_; intro _ _ htk9; (try dsimp only at htk9); revert htk9; intro _ Qk9 kH9; (try dsimp only)) | ((with_reducible show wpAny _ _ (execs [] _) _ _ _); refine wpAny_execs_nil ?_; (try dsimp only)) | ((first | (k_unfold; (try dsimp only)) | ((with_reducible show wpAny _ _ (execs (_ :: _) _) _ _ _); refine execs_hide ?_; intro Qk9 kH9; (try dsimp only)) | ((with_reducible rename Hid _ _ _ => kH9); first | (refine hid_next kH9 ?_; clear kH9; (try clear Qk9)) | (refine hid_other kH9 (by nofun) ?_; clear kH9; (try clear Qk9)); (try dsimp only)) | ((with_reducible show wpAny _ _ (eval (Expr.Name _ _) (envOfC _ _ _ _ _)) _ _ _); k_dflt (first | refine nmC_L (by exact rfl) (by exact rfl) (by exact rfl) (by assumption) (by exact rfl) ?_ | refine nmC_C (by exact rfl) (by exact rfl) (by exact rfl) (by assumption) (by exact rfl) (by k_mem) (by assumption) ?_ | refine nmC_K (by exact rfl) (by exact rfl) (by exact rfl) (by assumption) (by assumption) (by k_asm) (by k_is) ?_ | refine nmC_B (by exact rfl) (by exact rfl) (by exact rfl) (by assumption) (by assumption) (by k_asm) (by k_is) (by boot_by_name) (by decide) ?_)) | ((with_reducible show wpAny _ _ (eval (Expr.Name _ _) (compEnvC _ _ _ _)) _ _ _); k_dflt (refine cc_cell (by exact rfl) (Fr.keep (by assumption) _ _ (by assumption)) (by assumption) ?_ (by exact rfl) (by exact rfl) (by exact rfl))) | ((with_reducible show wpAny _ _ (eval (Expr.Name _ _) (compEnvC _ _ _ _)) _ _ _); k_dflt (refine cc_blt (by assumption) (by assumption) (by assumption) (by k_is) (by boot_by_name) (by decide) ?_ (by exact rfl) (by exact rfl) (by exact rfl) (by exact rfl) (by exact rfl))) | ((with_reducible show wpAny _ _ (call (Value.builtin "chr") [Value.int _ _]) _ _ _); k_dflt (refine chr_one (by assumption) ?_)) | ((with_reducible show wpAny _ _ (call (Value.builtin "ord") [Value.str _ _]) _ _ _); k_dflt (refine' ord_one ?_)) | ((with_reducible show wpAny _ _ (subscriptTail _ _ (Value.ref _) (Value.int _ _)) _ _ _); k_dflt (refine heap_item (Heap.IsList.at (by assumption) (fun o e => Fr.keep (by assumption) _ _ e)) (by omega) (by omega) (by assumption) ?_ (by exact rfl))) | ((with_reducible show wpAny _ _ (binaryOp Operator.Add (Value.str _ _) (Value.str _ _)) _ _ _); k_dflt (refine SB.add ?_ (add_fits (by walk_at "m_len") (by walk_at "m_len") (by decide +kernel)); intro _ _; (try dsimp only))) | ((with_reducible show wpAny _ _ (call (Value.builtin "len") [Value.str _ _]) _ _ _); k_dflt (refine len_str_ok (Nat.le_trans (by walk_at "m_len") (by decide +kernel)) ?_; (try dsimp only))) | ((with_reducible show wpAny _ _ (call (Value.builtin "list.append") [Value.ref _, _]) _ _ _); k_dflt (refine append_K (by k_asm) (by k_asm) (by k_upd) ?_ (by refine size_ok ?_; (try simp only [List.size_toArray]); omega); k_whole); intro _ _ _; (try k_sweep)) | ((with_reducible show wpAny _ _ (storeName (compEnvC _ _ _ _) _ _) _ _ _); k_dflt (refine cc_store (by assumption) (by assumption) (by exact rfl) (by exact rfl) ?_); intro _ _ _; (try k_sweep)) | ((with_reducible show wpAny _ _ (eval (Expr.Name _ _) (compEnvC _ _ _ _)) _ _ _); k_dflt (refine cc_load (by assumption) (by exact rfl) ?_ (by exact rfl) (by exact rfl) (by exact rfl))) | ((with_reducible show wpAny _ _ _ _ _ _); (fail_if_success (with_reducible first | show wpAny _ _ (exec (Stmt.For _ _ _ _ _) _) _ _ _ | show wpAny _ _ (exec (Stmt.While _ _ _ _) _) _ _ _ | show wpAny _ _ (pyIter _) _ _ _ | show wpAny _ _ (call (Value.builtin "list.pop") _ _) _ _ _ | show wpAny _ _ (call (Value.builtin "str.join") _ _) _ _ _ | show wpAny _ _ (call (Value.builtin "max") _ _) _ _ _ | show wpAny _ _ (setItem _ _ _) _ _ _ | show wpAny _ _ (call (Value.builtin "str.replace") _ _) _ _ _ | show wpAny _ _ (call (Value.builtin "str.split") _ _) _ _ _ | show wpAny _ _ (call (Value.ref _) _ _) _ _ _ | show wpAny _ _ (eval (Expr.ListComp _ _ _ _) _) _ _ _ | show wpAny _ _ (exec (Stmt.Assign _ (Expr.ListComp _ _ _ _) _) _) _ _ _)); first | walk1 | (dsimp only; walk1)) | ((with_reducible show Frag.In _ _ ∧ _); (refine ⟨by k_in, ?_⟩); (try dsimp only [List.nil_append, List.cons_append])) | ((with_reducible show (if _ then _ else _)); walk1)); (try dsimp only)))
   (rename Fr _ _ _ _ => F10)
   (rename News _ _ _ _ => N10)
   have hfa := menu_facts a ha
   have hfb := menu_facts b hb
   have hstg := hst j sx hsx
   rw [len_list] at hstg
   have hSm : ∀ d ∈ stage jn.cps.toList (rrun jn.cps.toList jn.cps.toList.length).rounds (j + 1), d ∈ ixL ++ [45] := fun d hd => hJm d (stage_mem d hd)
   have hSl : (stage jn.cps.toList (rrun jn.cps.toList jn.cps.toList.length).rounds (j + 1)).length ≤ 300 := Nat.le_trans (stage_len _ _ _) (by rw [← len_list]; omega)
   refine wpAny_call (name_call (a := a) (b := b) (Xe.keeps F10.keep) (Te.keeps F10.keep) ?_ ?_ rfl ?_ (by omega) (by omega) hfa.2.2.2.2.2.2 hfb.2.2.2.2.2.2 ?_ ?_ ?_)
   · show callerA.depth + 1 < 600; decide +kernel
   · show callerA.units + 3 + 100 < cLine; decide +kernel
   · dsimp only; omega
   · rw [len_list, hstg]; omega
   · intro c hc
     rw [hstg] at hc
     have := (sign_facts c (hSm c hc)).2.2
     omega
   intro h11 tk11 r2 rt2 st11 hr2
   rw [hstg] at hr2
   obtain rfl : r2 = r := str_ext (hr2.trans hr'.symm)
   replace F10 := fr_stays F10 st11
   replace N10 := news_stays N10 st11
   clear hr2
   try dsimp only
   repeat' (first | ((with_reducible show ((_ : Nat) ≤ _ → _)); intro htk9; (try dsimp only at htk9); revert htk9; intro _) | ((with_reducible show wpAny _ _ (execs (_ :: _) _) _ _ _); refine execs_hidt (by first | omega | (dsimp only; omega)) ?_; intro _ _ htk9; (try dsimp only at htk9); revert htk9; intro _ Qk9 kH9; (try dsimp only)) | ((with_reducible show wpAny _ _ (execs [] _) _ _ _); refine wpAny_execs_nil ?_; (try dsimp only)) | ((first | (k_unfold; (try dsimp only)) | ((with_reducible show wpAny _ _ (execs (_ :: _) _) _ _ _); refine execs_hide ?_; intro Qk9 kH9; (try dsimp only)) | ((with_reducible rename Hid _ _ _ => kH9); first | (refine hid_next kH9 ?_; clear kH9; (try clear Qk9)) | (refine hid_other kH9 (by nofun) ?_; clear kH9; (try clear Qk9)); (try dsimp only)) | ((with_reducible show wpAny _ _ (eval (Expr.Name _ _) (envOfC _ _ _ _ _)) _ _ _); k_dflt (first | refine nmC_L (by exact rfl) (by exact rfl) (by exact rfl) (by assumption) (by exact rfl) ?_ | refine nmC_C (by exact rfl) (by exact rfl) (by exact rfl) (by assumption) (by exact rfl) (by k_mem) (by assumption) ?_ | refine nmC_K (by exact rfl) (by exact rfl) (by exact rfl) (by assumption) (by assumption) (by k_asm) (by k_is) ?_ | refine nmC_B (by exact rfl) (by exact rfl) (by exact rfl) (by assumption) (by assumption) (by k_asm) (by k_is) (by boot_by_name) (by decide) ?_)) | ((with_reducible show wpAny _ _ (eval (Expr.Name _ _) (compEnvC _ _ _ _)) _ _ _); k_dflt (refine cc_cell (by exact rfl) (Fr.keep (by assumption) _ _ (by assumption)) (by assumption) ?_ (by exact rfl) (by exact rfl) (by exact rfl))) | ((with_reducible show wpAny _ _ (eval (Expr.Name _ _) (compEnvC _ _ _ _)) _ _ _); k_dflt (refine cc_blt (by assumption) (by assumption) (by assumption) (by k_is) (by boot_by_name) (by decide) ?_ (by exact rfl) (by exact rfl) (by exact rfl) (by exact rfl) (by exact rfl))) | ((with_reducible show wpAny _ _ (call (Value.builtin "chr") [Value.int _ _]) _ _ _); k_dflt (refine chr_one (by assumption) ?_)) | ((with_reducible show wpAny _ _ (call (Value.builtin "ord") [Value.str _ _]) _ _ _); k_dflt (refine' ord_one ?_)) | ((with_reducible show wpAny _ _ (subscriptTail _ _ (Value.ref _) (Value.int _ _)) _ _ _); k_dflt (refine heap_item (Heap.IsList.at (by assumption) (fun o e => Fr.keep (by assumption) _ _ e)) (by omega) (by omega) (by assumption) ?_ (by exact rfl))) | ((with_reducible show wpAny _ _ (binaryOp Operator.Add (Value.str _ _) (Value.str _ _)) _ _ _); k_dflt (refine SB.add ?_ (add_fits (by walk_at "m_len") (by walk_at "m_len") (by decide +kernel)); intro _ _; (try dsimp only))) | ((with_reducible show wpAny _ _ (call (Value.builtin "len") [Value.str _ _]) _ _ _); k_dflt (refine len_str_ok (Nat.le_trans (by walk_at "m_len") (by decide +kernel)) ?_; (try dsimp only))) | ((with_reducible show wpAny _ _ (call (Value.builtin "list.append") [Value.ref _, _]) _ _ _); k_dflt (refine append_K (by k_asm) (by k_asm) (by k_upd) ?_ (by refine size_ok ?_; (try simp only [List.size_toArray]); omega); k_whole); intro _ _ _; (try k_sweep)) | ((with_reducible show wpAny _ _ (storeName (compEnvC _ _ _ _) _ _) _ _ _); k_dflt (refine cc_store (by assumption) (by assumption) (by exact rfl) (by exact rfl) ?_); intro _ _ _; (try k_sweep)) | ((with_reducible show wpAny _ _ (eval (Expr.Name _ _) (compEnvC _ _ _ _)) _ _ _); k_dflt (refine cc_load (by assumption) (by exact rfl) ?_ (by exact rfl) (by exact rfl) (by exact rfl))) | ((with_reducible show wpAny _ _ _ _ _ _); (fail_if_success (with_reducible first | show wpAny _ _ (exec (Stmt.For _ _ _ _ _) _) _ _ _ | show wpAny _ _ (exec (Stmt.While _ _ _ _) _) _ _ _ | show wpAny _ _ (pyIter _) _ _ _ | show wpAny _ _ (call (Value.builtin "list.pop") _ _) _ _ _ | show wpAny _ _ (call (Value.builtin "str.join") _ _) _ _ _ | show wpAny _ _ (call (Value.builtin "max") _ _) _ _ _ | show wpAny _ _ (setItem _ _ _) _ _ _ | show wpAny _ _ (call (Value.builtin "str.replace") _ _) _ _ _ | show wpAny _ _ (call (Value.builtin "str.split") _ _) _ _ _ | show wpAny _ _ (call (Value.ref _) _ _) _ _ _ | show wpAny _ _ (eval (Expr.ListComp _ _ _ _) _) _ _ _ | show wpAny _ _ (exec (Stmt.Assign _ (Expr.ListComp _ _ _ _) _) _) _ _ _)); first | walk1 | (dsimp only; walk1)) | ((with_reducible show Frag.In _ _ ∧ _); (refine ⟨by k_in, ?_⟩); (try dsimp only [List.nil_append, List.cons_append])) | ((with_reducible show (if _ then _ else _)); walk1)); (try dsimp only)))
   · exact absurd ‹(r2 != r2) = true› (by simp)
   rename_i ln h12 l12 h13 F12 N12 _
   obtain ⟨hz1, hz2, hz3, hz4⟩ := told_one ha hb hSm hSl hr'
   exact ⟨_, _, _, _, _, rfl, F12, fun q hq => N12 q (by
     simp only [List.mem_cons] at hq ⊢
     rcases hq with h | h | h | h <;> simp [h]), all_cons (hoff' _ (.head _)) (all_cons (neN (Nat.ne_of_gt l12.2.1)) (fun p hp => hoff' p (.tail _ (.tail _ hp)))), ps9, ln, [.str r2 rt], [r2], 0, hps9, by kst_all, rfl, l12.1, hG9, .cons _ _ .nil, hz1, hz2, hz4, by rw [hz3]; exact pj_succ ha hb hJm j, by show 1 ≤ 100; decide⟩)
--END
end
end Part_law

section Part_fin
theorem old_tab {P : Addr} {h h' : Heap} (Ht : h.TableAt 27 P #[]) (hk : ∀ b o, b ≠ P → h.get? b = some o → h'.get? b = some o) (T : Tab 27 P h') : OldK h h' := by
  obtain ⟨ps, _, hP⟩ := tab_out T
  refine ⟨fun b o e => ?_, fun b o e => ?_⟩
  · by_cases hb : b = P
    · subst hb
      have e0 : o = { cls := .none, data := .fields #[] } := Option.some.inj (e.symm.trans Ht.2)
      subst e0
      exact .inr (.inl ⟨Ht.isCodeTable, rfl, #[], ps, rfl, by rw [hP]; simp [tabObj]⟩)
    · exact .inl (hk b o hb e)
  · by_cases hb : b = P
    · exact ⟨_, hb ▸ hP⟩
    · exact ⟨o, hk b o hb e⟩
/-! The names under which `o_head` would lay a second, quicker form of each constant of the head, taken ahead: the kernel needs none of
them here, and the compiled file stays small without them. -/
theorem law_holds.tw8285764192309689115 : True := trivial
theorem law_holds.tw12116493165278983582 : True := trivial
theorem law_holds.tw9207643191828677137 : True := trivial
theorem law_holds.tw14289194402921355359 : True := trivial
theorem law_holds.tw13280740594461564331 : True := trivial
theorem law_holds.tw15018442318752448774 : True := trivial
theorem law_holds.tw9184033795430018204 : True := trivial
theorem law_holds.tw10817052189556005596 : True := trivial
theorem law_holds.tw14988988175077273356 : True := trivial
theorem law_holds.tw12831907817818079685 : True := trivial
theorem law_holds.tw179590077315354965 : True := trivial
theorem law_holds.tw14571795756577361901 : True := trivial
theorem law_holds.tw15806970514647361693 : True := trivial
theorem law_holds.tw3438298445031660282 : True := trivial
theorem law_holds.tw13766487248619392586 : True := trivial
theorem law_holds.tw17027635718292003107 : True := trivial
theorem law_holds.tw18326849912455186884 : True := trivial
theorem law_holds.tw9529696498207198238 : True := trivial
theorem law_holds.tw784011647948385275 : True := trivial
theorem law_holds.tw10566571302883470556 : True := trivial
theorem law_holds.tw16893121556090616931 : True := trivial
theorem law_holds.tw17699125900338286826 : True := trivial
theorem law_holds.tw7421483335098213213 : True := trivial
theorem law_holds.tw2387193687640843687 : True := trivial
theorem law_holds.tw10841264019214440115 : True := trivial
theorem law_holds.tw14822640431511872941 : True := trivial
theorem law_holds.tw18088815440386387072 : True := trivial
theorem law_holds.tw16273140198857503625 : True := trivial
theorem law_holds.tw3690325712366979604 : True := trivial
theorem law_holds.tw926570990666696690 : True := trivial
theorem law_holds.tw8957123355933967898 : True := trivial
theorem law_holds.tw2143268655074302082 : True := trivial
theorem law_holds.tw12115171985352901274 : True := trivial
theorem law_holds.tw7304591109411159013 : True := trivial
theorem law_holds.tw2503670479209048990 : True := trivial
theorem law_holds.tw9423440377400516374 : True := trivial
theorem law_holds.tw3426384778480675251 : True := trivial
theorem law_holds.tw4323815956820902445 : True := trivial
theorem law_holds.tw4273555757443719353 : True := trivial
theorem law_holds.tw12780804625047726367 : True := trivial
theorem law_holds.tw5640673133297012132 : True := trivial
theorem law_holds.tw16805829885119392726 : True := trivial
theorem law_holds.tw1724926542741425601 : True := trivial
theorem law_holds.tw6860709855171689206 : True := trivial
theorem law_holds.tw14925382992726071281 : True := trivial
theorem law_holds.tw6507877686720480950 : True := trivial
theorem law_holds.tw4037582482628031876 : True := trivial
theorem law_holds.tw2446358144275080391 : True := trivial
theorem law_holds.tw16720094985154256693 : True := trivial
theorem law_holds.tw13431030151845061361 : True := trivial
theorem law_holds.tw12303009252429188658 : True := trivial
theorem law_holds.tw9013377322688217293 : True := trivial
theorem law_holds.tw11764581739189218997 : True := trivial
theorem law_holds.tw10242277825702978295 : True := trivial
theorem law_holds.tw498061464947678834 : True := trivial
theorem law_holds.tw16614716721108272449 : True := trivial
theorem law_holds.tw17499823404086765753 : True := trivial
theorem law_holds.tw447027507633508388 : True := trivial
theorem law_holds.tw2644310842459337959 : True := trivial
theorem law_holds.tw8984712037535005518 : True := trivial
theorem law_holds.tw14498155544194170393 : True := trivial
theorem law_holds.tw2043166853727251185 : True := trivial
theorem law_holds.tw12732824653754844360 : True := trivial
theorem law_holds.tw9992725586745946429 : True := trivial
theorem law_holds.tw7075805920889398618 : True := trivial
theorem law_holds.tw15607887362523206001 : True := trivial
theorem law_holds.tw3035144380315620824 : True := trivial
theorem law_holds.tw8835965917227929528 : True := trivial
theorem law_holds.tw13956741780833797525 : True := trivial
theorem law_holds.tw4464252984393422682 : True := trivial
theorem law_holds.tw4781243967656130014 : True := trivial
theorem law_holds.tw16461882675039125421 : True := trivial
theorem law_holds.tw3776956092104397036 : True := trivial
theorem law_holds.tw15452448965706171373 : True := trivial
theorem law_holds.tw4581845663705801772 : True := trivial
theorem law_holds.tw10007947361888340627 : True := trivial
theorem law_holds.tw7185456241796803578 : True := trivial
theorem law_holds.tw15544829507116839252 : True := trivial
theorem law_holds.tw8652346329174877282 : True := trivial
theorem law_holds.tw15661869461025623997 : True := trivial
theorem law_holds.tw545109181885906688 : True := trivial
theorem law_holds.tw718173064312146323 : True := trivial
theorem law_holds.tw3253568177066640346 : True := trivial
theorem law_holds.tw14774650325386425613 : True := trivial
theorem law_holds.tw17180001009569633970 : True := trivial
theorem law_holds.tw13536078969547264968 : True := trivial
theorem law_holds.tw6776455111828631412 : True := trivial
theorem law_holds.tw7120836010843673076 : True := trivial
theorem law_holds.tw5506821171919863439 : True := trivial
theorem law_holds.tw18234560199702728603 : True := trivial
theorem law_holds.tw8011658773829754393 : True := trivial
theorem law_holds.tw4916342969005030805 : True := trivial
theorem law_holds.tw1377309892636839040 : True := trivial
theorem law_holds.tw7408322871517469003 : True := trivial
theorem law_holds.tw10188763426450519768 : True := trivial
theorem law_holds.tw5212653520564569363 : True := trivial
theorem law_holds.tw602461330855297101 : True := trivial
set_option Elab.async true
set_option maxRecDepth 100000 in
set_option maxHeartbeats 8000000 in
theorem law_holds : PySem.Challenge.rw_mq0093_01.Holds := by
  w_on
  o_law
  o_head (kHook hk.heap_1 [nat_lit 2, nat_lit 3, nat_lit 6, nat_lit 15, nat_lit 17, nat_lit 18, nat_lit 20, nat_lit 21, nat_lit 22, nat_lit 24, nat_lit 25, nat_lit 27, nat_lit 28, nat_lit 29, nat_lit 31, nat_lit 32, nat_lit 34, nat_lit 35, nat_lit 36, nat_lit 38, nat_lit 39, nat_lit 41, nat_lit 42, nat_lit 43, nat_lit 44, nat_lit 46, nat_lit 47, nat_lit 49, nat_lit 50, nat_lit 51, nat_lit 52, nat_lit 54, nat_lit 55, nat_lit 57, nat_lit 58, nat_lit 59, nat_lit 61, nat_lit 62, nat_lit 64, nat_lit 65, nat_lit 66, nat_lit 68, nat_lit 69, nat_lit 71, nat_lit 72, nat_lit 73, nat_lit 75, nat_lit 76, nat_lit 78, nat_lit 79, nat_lit 80, nat_lit 82, nat_lit 83, nat_lit 85, nat_lit 86, nat_lit 87, nat_lit 89, nat_lit 90, nat_lit 92, nat_lit 93, nat_lit 94, nat_lit 97, nat_lit 98, nat_lit 99, nat_lit 102, nat_lit 103, nat_lit 104, nat_lit 107, nat_lit 108] (fun _ => by kernel_rfl))
  (case hw => w_witness2)
  w_strict (
   w_top off
   w_top off
   k_fill
   intro w s₀ s₁ mg mb G Y fa o pm cd doc dV kV ho hdd hcd hD hmg hg args vals as hpre hlay hrd hwl hlo
   have KX := kIn_of Y
   refine Ground.open G ?_
   intro T B D TE TW
   try (refine guard_noD D (by decide +kernel) ?_; clear D)
   obtain ⟨bm, ob, M⟩ := bmod_of_top T
   have e108 := mg_of KX T.g (n := Str.ofString "law") (v := .ref 108) (by k_is)
   have e28 := mg_of KX T.g (n := Str.ofString "_platform") (v := .ref 28) (by k_is)
   have efa : fa = 108 := by
     have h1 := hmg.symm.trans e108
     injection h1 with h2
     injection h2
   subst efa
   wrow_args hpre hlay hrd hwl hlo
   rename_i ns _ _ _ _ _ _ _ l vs _ hL _ _ _ hI _ hc1 _
   refine enter_call ?_
   obtain ⟨c, P, hc, Bs⟩ := based_of_top T (name := Str.ofString "_platform") rfl e28 (KX 28 _ (by k_is)) rfl
   obtain rfl : 27 = c := by injection hc
   refine law_call KX T ⟨#[], Bs.code, Bs.tab⟩ M (AllBare.of_eq hg) hL hI (by omega) ?_
   intro h' gens' tk hk TB hG
   refine ⟨.inl ⟨.bool true, .bool true, [], rfl, raisesW_false (by wrow_none_raised), .bool _, postW_of (by wrow_shape) (by wtm_val) (by str_meet; first | done | w_fin), fun _ => ⟨List.nodup_nil, fun _ h => nomatch h⟩⟩, old_tab Bs.tab hk TB, rfl, hG⟩)
set_option Elab.async false
end Part_fin
end Mine
set_option maxRecDepth 100000 in
set_option maxHeartbeats 8000000 in
theorem PySem.Challenge.cw_mq0093_01_holds : PySem.Challenge.rw_mq0093_01.Holds :=
  Mine.law_holds

