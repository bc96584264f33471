import PyProof.Rows.All
import Wide.All
import OpenK.AllK
import Wide.FinOn
import PySem.Challenge.RW_wn0034_02
set_option Elab.async false
local macro_rules | `(tactic| omega) => `(tactic| first | lia | omega +splitDisjunctions)
namespace Mine
end Mine
section
open PySem PySem.W PyProof.Rows
set_option Elab.async false
set_option maxRecDepth 100000
set_option maxHeartbeats 8000000
open_top hd2 for PySem.Challenge.rw_wn0034_02
end
section
open PySem PySem.W PySem.Calls PyProof.Rows
namespace Mine

abbrev Ext (h h' : Heap) : Prop := ∀ b o, h.get? b = some o → h'.get? b = some o
theorem Ext.refl (h : Heap) : Ext h h := fun _ _ e => e
abbrev Ar (dp un : Nat) (fr : Option (List Env)) (gd : Option (List Code)) : Around := { handled := none, depth := dp, frames := fr, guards := gd, units := un }

/-- the walk pauses here -/
structure Halt (P : Prop) : Prop where
  out : P

/-- nothing is raised -/
abbrev F0 : Value → Shared → Prop := fun _ _ => False

/-- what a call hands back: a value, and a heap that has only grown -/
structure Back (s : Shared) (P : Value → Heap → Prop) (v : Value) (s' : Shared) : Prop where
  out : ∃ h' tk, s' = { s with heap := h', toks := tk } ∧ Ext s.heap h' ∧ P v h'

def Fn (n : Nat) (prog : Program) (w : World) (f : Addr) (vs : List Value) (P : Value → Heap → Prop) (s : Shared) : Prop :=
  ∀ dp un fr gd, dp + n < recursionLimit → un + 100 * n < cLine →
    codeAny (model prog w) (Ar dp un fr gd) (.call (.ref f) ⟨vs, []⟩)
      (fun r s' => match r with | .ok (.ret v) => Back s P v s' | _ => False) s

theorem call_Fn {n : Nat} {prog : Program} {w : World} {f : Addr} {vs : List Value} {P : Value → Heap → Prop} {s : Shared} {A : Around} {Q E : Value → Shared → Prop}
    (hf : Fn n prog w f vs P s) (hh : A.handled = none) (hd : A.depth + n < recursionLimit) (hu : A.units + 100 * n < cLine)
    (h : ∀ v h' tk, Ext s.heap h' → P v h' → Q v { s with heap := h', toks := tk }) :
    wpAny (model prog w) A (call (.ref f) vs) Q E s := by
  obtain ⟨hd', d, fr, gs, u⟩ := A
  simp only at hh hd hu
  subst hh
  refine wpAny_call (codeAny_mono (hf d u fr gs hd hu) fun r s' hr => ?_)
  cases r with
  | error e => exact hr.elim
  | ok fl =>
    cases fl with
    | ret v => obtain ⟨h', tk, rfl, hk, hp⟩ := hr; exact h v h' tk hk hp
    | _ => exact hr.elim

section
variable {prog : Program} {w : World} {s : Shared} {K : Frag} {name qual : Str} {params : Arguments} {body : List Stmt} {scope : Scope} {dV kV doc pm cdv ct oc : Value} {an od : Option Addr} {osl : Array (Option Value)} {f : Addr} {vs : List Value} {binds : List (Str × Value)} {P : Value → Heap → Prop} {n : Nat}

theorem Fn.of_body (X : K.In s.heap) (hlim : s.heap.NoLimit)
    (ho : K.lookup f = some ⟨oc, od, .func (fnOf name qual params body scope dV kV doc pm an cdv ct), osl⟩) (hcd : codeIn K cdv qual = true)
    (hbind : BindsTo s (fnOf name qual params body scope dV kV doc pm an cdv ct) ⟨vs, []⟩ binds) (hloc : ∀ y ∈ binds, scope.names.lookup y.1 = some .local)
    (h : ∀ dp un fr gd L' h₁, dp + n < recursionLimit → un + 100 * n < cLine → Fr s.heap L' h₁ (fun y => binds.reverse.lookup y) →
      wpAny (model prog w) (Ar (dp + 1) (un + 3) fr gd) (execs body (envOf qual scope L' f cdv))
        (fun fl s' => Back s P (match fl with | .ret v => v | _ => .none) s') F0
        { s with heap := h₁, toks := s.toks + binds.length })
    (hco : scope.isCoroutine = false := by rfl) (hgen : scope.isGenerator = false := by rfl) (hk : scope.kind = .function := by rfl)
    (hcell : ∀ x ∈ scope.names, x.2 ≠ .cell := by decide) : Fn n prog w f vs P s := by
  intro dp un fr gd hdp hun
  refine codeAny_call_def (fd := fnOf name qual params body scope dV kV doc pm an cdv ct) (body := body) (binds := binds) (by simp only; omega) (X _ _ ho) rfl hlim (codeRec_of X hcd) rfl hbind hcell hloc (fun h₁ hns hk₁ => ?_) hco hgen hk
  exact wpAny_mono (h dp un _ _ s.heap.objs.size h₁ hdp hun ⟨hns, hk₁, Nat.le_refl _⟩) (fun fl s' hb => hb) fun _ _ hf => hf.elim

/-- the same for a def whose locals are captured -/
theorem Fn.of_bodyC (X : K.In s.heap) (hlim : s.heap.NoLimit)
    (ho : K.lookup f = some ⟨oc, od, .func (fnOf name qual params body scope dV kV doc pm an cdv ct), osl⟩) (hcd : codeIn K cdv qual = true)
    (hbind : BindsTo s (fnOf name qual params body scope dV kV doc pm an cdv ct) ⟨vs, []⟩ binds)
    (hkind : (binds.all fun y => scope.names.lookup y.1 == some .local || scope.names.lookup y.1 == some .cell) = true)
    (hnd : ((cellsFrom 0 scope.names []).map (·.1)).Nodup)
    (h : ∀ dp un fr gd L' h₁ tk cells, dp + n < recursionLimit → un + 100 * n < cLine → Fr s.heap L' h₁ (bindL (envOfC qual scope L' f cdv).kindOf binds fun _ => none) →
      News s.heap L' h₁ cells → CellsAre (bindC (envOfC qual scope L' f cdv).kindOf binds fun _ => none) (cellsFrom (L' + 1) scope.names []) cells →
      wpAny (model prog w) (Ar (dp + 1) (un + 3) fr gd) (execs body (envOfC qual scope L' f cdv))
        (fun fl s' => Back s P (match fl with | .ret v => v | _ => .none) s') F0
        { s with heap := h₁, toks := tk })
    (hco : scope.isCoroutine = false := by rfl) (hgen : scope.isGenerator = false := by rfl) (hk : scope.kind = .function := by rfl) : Fn n prog w f vs P s := by
  intro dp un fr gd hdp hun
  refine codeAny_call_function (by simp only; omega) (X _ _ ho) rfl hco hgen rfl (codeRec_of X hcd) (hbind _ _ _ _ ?_)
  refine wpAny_newFunctionEnv_cells hk (kindsX hkind _) fun env' he s' x => ?_
  subst he
  refine ⟨hlim.keeps x.toInCall.keep, codeAny_func ?_⟩
  obtain ⟨h₁, tk, rfl, _⟩ := x.done
  have hk₁ := x.toInCall.keep
  obtain ⟨cells, NC, Y⟩ := Cl.news (h₀ := s.heap) (Nat.le_refl _) fun n c hm => ⟨x.cell n c (lookup_of_mem_nodup (cellsFrom_names scope.names 0 (s.heap.objs.size + 1) [] [] rfl ▸ hnd) hm), x.above n c hm⟩
  exact wpAny_mono (h dp un _ _ s.heap.objs.size h₁ tk cells hdp hun ⟨x.toInCall.ns, hk₁, Nat.le_refl _⟩ NC Y) (fun fl s' hb => hb) fun _ _ hf => hf.elim

theorem Back.intro {h' : Heap} {tk : Nat} {L : Addr} {m : Str → Option Value} {v : Value} (F : Fr s.heap L h' m) (hp : P v h') : Back s P v { s with heap := h', toks := tk } := ⟨h', tk, rfl, F.keep, hp⟩
end

/-- the end of a loop's turn -/
structure TurnEnd (h₀ : Heap) (L : Addr) (J : (Str → Option Value) → List (Addr × Obj) → Prop) (own : List (Addr × Obj)) (I : Option Addr) (s s' : Shared) : Prop where
  out : ∃ h' tk m' nx news', s' = { s with heap := h', toks := tk } ∧ Fr h₀ L h' m' ∧ News h₀ L h' news' ∧ (∀ p ∈ nx, p ∈ news') ∧ (∀ p ∈ own, p ∈ news') ∧ (∀ p ∈ nx, some p.1 ≠ I) ∧ J m' nx

theorem TurnEnd.intro {h₀ : Heap} {L : Addr} {J : (Str → Option Value) → List (Addr × Obj) → Prop} {own : List (Addr × Obj)} {I : Option Addr} {s : Shared} {h' : Heap} {tk : Nat} {m' : Str → Option Value} (nx news' : List (Addr × Obj))
    (F : Fr h₀ L h' m') (N : News h₀ L h' news') (h1 : ∀ p ∈ nx, p ∈ news') (h2 : ∀ p ∈ own, p ∈ news') (h3 : ∀ p ∈ nx, some p.1 ≠ I) (hj : J m' nx) : TurnEnd h₀ L J own I s { s with heap := h', toks := tk } :=
  ⟨h', tk, m', nx, news', rfl, F, N, h1, h2, h3, hj⟩

theorem TurnEnd.split {h₀ : Heap} {L : Addr} {J : (Str → Option Value) → List (Addr × Obj) → Prop} {own : List (Addr × Obj)} {I : Addr} {s : Shared} {h' : Heap} {tk : Nat} {m' : Str → Option Value} (nx : List (Addr × Obj))
    (F : Fr h₀ L h' m') (N : News h₀ L h' (nx ++ own)) (h3 : ∀ p ∈ nx, p.1 ≠ I) (hj : J m' nx) : TurnEnd h₀ L J own (some I) s { s with heap := h', toks := tk } :=
  .intro nx _ F N (fun _ h => List.mem_append_left _ h) (fun _ h => List.mem_append_right _ h) (fun p hp e => h3 p hp (Option.some.inj e)) hj
theorem TurnEnd.n0 {h₀ : Heap} {L : Addr} {J : (Str → Option Value) → List (Addr × Obj) → Prop} {own : List (Addr × Obj)} {I : Addr} {s : Shared} {h' : Heap} {tk : Nat} {m' : Str → Option Value}
    (F : Fr h₀ L h' m') (N : News h₀ L h' own) (hj : J m' []) : TurnEnd h₀ L J own (some I) s { s with heap := h', toks := tk } := .split [] F N (fun _ h => (nomatch h)) hj
theorem TurnEnd.n1 {h₀ : Heap} {L : Addr} {J : (Str → Option Value) → List (Addr × Obj) → Prop} {own : List (Addr × Obj)} {I : Addr} {s : Shared} {h' : Heap} {tk : Nat} {m' : Str → Option Value} {a : Addr × Obj}
    (F : Fr h₀ L h' m') (N : News h₀ L h' (a :: own)) (h3 : a.1 ≠ I) (hj : J m' [a]) : TurnEnd h₀ L J own (some I) s { s with heap := h', toks := tk } := .split [a] F N (fun p hp => List.mem_singleton.mp hp ▸ h3) hj
/-- the end of a while's turn -/
theorem TurnEnd.w {h₀ : Heap} {L : Addr} {J : (Str → Option Value) → List (Addr × Obj) → Prop} {s : Shared} {h' : Heap} {tk : Nat} {m' : Str → Option Value} {nx : List (Addr × Obj)}
    (F : Fr h₀ L h' m') (N : News h₀ L h' nx) (hj : J m' nx) : TurnEnd h₀ L J [] none s { s with heap := h', toks := tk } := .intro nx nx F N (fun _ h => h) (fun _ h => (nomatch h)) (fun _ _ e => nomatch e) hj
theorem TurnEnd.rebase {h₀ : Heap} {L : Addr} {J : (Str → Option Value) → List (Addr × Obj) → Prop} {own : List (Addr × Obj)} {I : Option Addr} {s s' : Shared} {h : Heap} {tk : Nat} (x : TurnEnd h₀ L J own I s s') :
    TurnEnd h₀ L J own I { s with heap := h, toks := tk } s' := by
  obtain ⟨h', tk', m', nx, news', rfl, r⟩ := x
  exact ⟨h', tk', m', nx, news', rfl, r⟩

theorem turn_rebase {M : Model} {A : Around} {env : Env} {target : Expr} {v : Value} {body : List Stmt} {h₀ : Heap} {L : Addr} {J : (Str → Option Value) → List (Addr × Obj) → Prop} {own : List (Addr × Obj)} {I : Option Addr} {s s₁ : Shared} {h : Heap} {tk : Nat} {Q : Flow → Shared → Prop}
    (x : wpAny M A (assign target env v) (fun _ s₂ => wpAny M A (execs body env) (fun f s₃ => match f with
          | .next | .cont => TurnEnd h₀ L J own I s s₃
          | .brk => Q .next s₃
          | .ret v => Q (.ret v) s₃) F0 s₂) F0 s₁) :
    wpAny M A (assign target env v) (fun _ s₂ => wpAny M A (execs body env) (fun f s₃ => match f with
          | .next | .cont => TurnEnd h₀ L J own I { s with heap := h, toks := tk } s₃
          | .brk => Q .next s₃
          | .ret v => Q (.ret v) s₃) F0 s₂) F0 s₁ :=
  wpAny_mono x (fun _ _ y => wpAny_mono y (fun f _ z => by cases f with
    | next => exact z.rebase
    | cont => exact z.rebase
    | brk => exact z
    | ret v => exact z) fun _ _ e => e) fun _ _ e => e

section
variable {prog : Program} {w : World} {A : Around} {s : Shared} {env : Env} {h₀ : Heap} {Q : Flow → Shared → Prop}

def RunQ (M : Model) (A : Around) (env : Env) (Q : Flow → Shared → Prop) (r : Result) (s' : Shared) : Prop :=
  match r with | .ok f => Q f s' | .error e => cameBackBy M A env F0 e s'

theorem While_J {test : Expr} {body orelse : List Stmt} {pos : Pos} {m : Str → Option Value} {news : List (Addr × Obj)} (J : Nat → (Str → Option Value) → List (Addr × Obj) → Prop) (n : Nat)
    (F : Fr h₀ env.locals s.heap m) (N : News h₀ env.locals s.heap news) (hj : J n m news)
    (turn : ∀ n m₁ nx h tk, J n m₁ nx → Fr h₀ env.locals h m₁ → News h₀ env.locals h nx →
      wpAny (model prog w) A (isTrue test env (eval test env)) (fun b s₂ =>
        if b then wpAny (model prog w) A (execs body env) (fun f s₃ => match f with
            | .next | .cont => TurnEnd h₀ env.locals (fun m' nx' => ∃ k, k < n ∧ J k m' nx') [] none s s₃
            | .brk => Q .next s₃
            | .ret v => Q (.ret v) s₃) F0 s₂
        else wpAny (model prog w) A (execs orelse env) Q F0 s₂) F0 { s with heap := h, toks := tk }) :
    wpAny (model prog w) A (exec (.While test body orelse pos) env) Q F0 s := by
  refine wpAny_While ?_
  refine codeAny_whileLoop (fun n s' => ∃ h tk m₁ nx, s' = { s with heap := h, toks := tk } ∧ J n m₁ nx ∧ Fr h₀ env.locals h m₁ ∧ News h₀ env.locals h nx) ?_ n ⟨s.heap, s.toks, m, news, rfl, hj, F, N⟩
  rintro n s' ⟨h, tk, m₁, nx, rfl, hJ, F₁, N₁⟩
  refine wpAny_mono (turn n m₁ nx h tk hJ F₁ N₁) (fun b s₂ hb => ?_) fun _ _ e => e.elim
  cases b with
  | false =>
    simp only [Bool.false_eq_true, if_false] at hb ⊢
    exact wpAny_mono hb (fun _ _ x => x) fun _ _ e => e.elim
  | true =>
    simp only [if_true] at hb ⊢
    refine wpAny_mono hb (fun f s₃ hf => ?_) fun _ _ e => e.elim
    have fin : TurnEnd h₀ env.locals (fun m' nx' => ∃ k, k < n ∧ J k m' nx') [] none s s₃ → ∃ m, m < n ∧ ∃ h tk m₁ nx, s₃ = { s with heap := h, toks := tk } ∧ J m m₁ nx ∧ Fr h₀ env.locals h m₁ ∧ News h₀ env.locals h nx := by
      rintro ⟨h', tk', m', nx', news', rfl, F', N', h1, _, _, k, hk, hJ'⟩
      exact ⟨k, hk, h', tk', m', nx', rfl, hJ', F', fun p hp => N' p (h1 p hp)⟩
    cases f with
    | next => exact fin hf
    | cont => exact fin hf
    | brk => exact hf
    | ret v => exact hf

theorem For_J {target : Expr} {body orelse : List Stmt} {I : Addr} {src : List Addr} {n : Nat} {P : Nat → Value → Prop} {St : Nat → Heap → Prop} {m : Str → Option Value} {news old : List (Addr × Obj)}
    (J : Nat → (Str → Option Value) → List (Addr × Obj) → Prop)
    (W : Walks prog w A I (I :: src) [I] n P St) (hlive : ∀ i h, St i h → ∃ o, h.get? I = some o) (hIL : I ≠ env.locals) (hI : h₀.get? I = none) (hst : St 0 s.heap) (F : Fr h₀ env.locals s.heap m) (N : News h₀ env.locals s.heap (news ++ old))
    (hoff : ∀ p ∈ news ++ old, p.1 ≠ I) (hj : J 0 m news)
    (hsrc : ∀ i m₁ nx h, i ≤ n → J i m₁ nx → Fr h₀ env.locals h m₁ → News h₀ env.locals h (nx ++ old) → ∀ b ∈ src, ∀ o, s.heap.get? b = some o → h.get? b = some o)
    (hsok : ∀ b ∈ src, b ≠ I ∧ ∃ o, s.heap.get? b = some o)
    (turn : ∀ i v m₁ nx h tk oI, i < n → P i v → J i m₁ nx → (∀ p ∈ nx, p.1 ≠ I) → St (i + 1) h → Fr h₀ env.locals h m₁ → News h₀ env.locals h (nx ++ (I, oI) :: old) →
      wpAny (model prog w) A (assign target env v) (fun _ s₂ => wpAny (model prog w) A (execs body env) (fun f s₃ => match f with
          | .next | .cont => TurnEnd h₀ env.locals (J (i + 1)) ((I, oI) :: old) (some I) s s₃
          | .brk => Q .next s₃
          | .ret v => Q (.ret v) s₃) F0 s₂) F0 { s with heap := h, toks := tk })
    (done : ∀ m₁ nx h tk, J n m₁ nx → Fr h₀ env.locals h m₁ → News h₀ env.locals h (nx ++ old) → wpAny (model prog w) A (execs orelse env) Q F0 { s with heap := h, toks := tk })
    (ht : ∀ v, letOwnedTupleGo target (.ref I) v = pure () := by intro _; rfl) :
    codeAny (model prog w) A (.forLoop target (.ref I) body orelse env) (RunQ (model prog w) A env Q) s := by
  refine codeAny_forLoop (ht := ht)
    (fun k s' => ∃ h tk m₁ nx i, s' = { s with heap := h, toks := tk } ∧ St i h ∧ Fr h₀ env.locals h m₁ ∧ News h₀ env.locals h (nx ++ old) ∧ (∀ p ∈ nx ++ old, p.1 ≠ I) ∧ J i m₁ nx ∧ i ≤ n ∧ k = n + 1 - i) ?_ (n + 1)
    ⟨s.heap, s.toks, m, news, 0, rfl, hst, F, N, hoff, hj, Nat.zero_le _, rfl⟩
  rintro k s' ⟨h, tk, m₁, nx, i, rfl, hst', F', N', hoff', hJ, hi, rfl⟩
  have next : ∀ h₁ : Heap, (∀ b o, b ∉ [I] → h.get? b = some o → h₁.get? b = some o) → Fr h₀ env.locals h₁ m₁ ∧ News h₀ env.locals h₁ (nx ++ old) := fun h₁ hk₁ =>
    ⟨⟨F'.ns.at' fun o e => hk₁ _ o (by simpa using Ne.symm hIL) e, fun b o e => hk₁ b o (by simp only [List.mem_singleton]; rintro rfl; rw [hI] at e; cases e) (F'.keep b o e), F'.above⟩,
      fun p hp => ⟨hk₁ _ _ (by simpa using hoff' p hp) (N' p hp).1, (N' p hp).2⟩⟩
  by_cases hlt : i < n
  · refine wpAny_mono (W.item i _ (fun r s₁ => ∃ v h₁ tk₁, r = some v ∧ s₁ = { s with heap := h₁, toks := tk₁ } ∧ P i v ∧ St (i + 1) h₁ ∧ (∀ b o, b ∉ [I] → h.get? b = some o → h₁.get? b = some o)) F0 hlt hst' fun v h₁ tk₁ hP hst₁ hk₁ => ⟨v, h₁, tk₁, rfl, rfl, hP, hst₁, hk₁⟩) (fun r s₁ hr => ?_) fun _ _ e => e.elim
    obtain ⟨v, h₁, tk₁, rfl, rfl, hP, hst₁, hk₁⟩ := hr
    obtain ⟨F₁, N₁⟩ := next h₁ hk₁
    obtain ⟨oI, hoI⟩ := hlive _ _ hst₁
    have N₂ : News h₀ env.locals h₁ (nx ++ (I, oI) :: old) := by
      intro p hp
      rcases List.mem_append.mp hp with h1 | h1
      · exact N₁ p (List.mem_append_left _ h1)
      · rcases List.mem_cons.mp h1 with rfl | h1
        · exact ⟨hoI, hIL, hI⟩
        · exact N₁ p (List.mem_append_right _ h1)
    refine wpAny_mono (turn i v m₁ nx h₁ tk₁ oI hlt hP hJ (fun p hp => hoff' p (List.mem_append_left _ hp)) hst₁ F₁ N₂) (fun _ s₂ h₂ => wpAny_mono h₂ (fun f s₃ h₃ => ?_) fun _ _ e => e.elim) fun _ _ e => e.elim
    have fin : TurnEnd h₀ env.locals (J (i + 1)) ((I, oI) :: old) (some I) s s₃ → ∃ m, m < n + 1 - i ∧ ∃ h tk m₁ nx i, s₃ = { s with heap := h, toks := tk } ∧ St i h ∧ Fr h₀ env.locals h m₁ ∧ News h₀ env.locals h (nx ++ old) ∧ (∀ p ∈ nx ++ old, p.1 ≠ I) ∧ J i m₁ nx ∧ i ≤ n ∧ m = n + 1 - i := by
      rintro ⟨h', tk', m', nx', news', rfl, Fz, Nz, h1, h2, h3, hJ'⟩
      have hIz : h'.get? I = some oI := (Nz _ (h2 _ (.head _))).1
      have Nn : News h₀ env.locals h' (nx' ++ old) := fun p hp => Nz p ((List.mem_append.mp hp).elim (h1 p) fun q => h2 p (.tail _ q))
      refine ⟨n + 1 - (i + 1), by omega, h', tk', m', nx', i + 1, rfl, ?_, Fz, Nn, ?_, hJ', hlt, rfl⟩
      · refine W.frame _ _ _ hst₁ fun b hb o e => ?_
        rcases List.mem_cons.mp hb with rfl | hb
        · rw [hIz, ← hoI]; exact e
        · obtain ⟨hbI, ob, hob⟩ := hsok b hb
          have e0 := hsrc i m₁ nx h (by omega) hJ F' N' b hb ob hob
          have e1 := hk₁ b ob (by simpa using hbI) e0
          rw [e1] at e; cases e
          exact hsrc (i + 1) m' nx' h' (by omega) hJ' Fz Nn b hb _ hob
      · intro p hp
        rcases List.mem_append.mp hp with q | q
        · exact fun e => h3 p q (congrArg some e)
        · exact hoff' p (List.mem_append_right _ q)
    cases f with
    | next => exact fin h₃
    | cont => exact fin h₃
    | brk => exact h₃
    | ret v => exact h₃
  · have hin : i = n := by omega
    subst hin
    refine wpAny_mono (W.done _ (fun r s₁ => ∃ h₁ tk₁, r = none ∧ s₁ = { s with heap := h₁, toks := tk₁ } ∧ (∀ b o, b ∉ [I] → h.get? b = some o → h₁.get? b = some o)) F0 hst' fun h₁ tk₁ hk₁ => ⟨h₁, tk₁, rfl, rfl, hk₁⟩) (fun r s₁ hr => ?_) fun _ _ e => e.elim
    obtain ⟨h₁, tk₁, rfl, rfl, hk₁⟩ := hr
    obtain ⟨F₁, N₁⟩ := next h₁ hk₁
    exact wpAny_mono (done m₁ nx h₁ tk₁ hJ F₁ N₁) (fun _ _ x => x) fun _ _ e => e.elim

/-- `for .. in range(..)`: at the iterator's making -/
theorem For_range_J {target : Expr} {body orelse : List Stmt} {r : Addr} {a b : Int} {t u v : Tok} {n : Nat} {m : Str → Option Value} {news old : List (Addr × Obj)}
    (J : Nat → (Str → Option Value) → List (Addr × Obj) → Prop)
    (hh : A.handled = none) (hr : IsRange s.heap r a b 1 t u v) (hsmall : Builtin.Range.small a b 1 = true) (hn : Builtin.Range.rangeSize a b 1 = (n : Int))
    (F : Fr h₀ env.locals s.heap m) (N : News h₀ env.locals s.heap (news ++ old)) (hj : J 0 m news)
    (turn : ∀ (i : Nat) t m₁ nx h tk I oI, i < n → J i m₁ nx → s.heap.objs.size = I → (∀ p ∈ nx, p.1 ≠ I) → (∃ vs, oI = { cls := .type "range_iterator", data := .fields vs }) → Fr h₀ env.locals h m₁ → News h₀ env.locals h (nx ++ (I, oI) :: old) →
      wpAny (model prog w) A (assign target env (.int (a + i) t)) (fun _ s₂ => wpAny (model prog w) A (execs body env) (fun f s₃ => match f with
          | .next | .cont => TurnEnd h₀ env.locals (J (i + 1)) ((I, oI) :: old) (some I) s s₃
          | .brk => Q .next s₃
          | .ret v => Q (.ret v) s₃) F0 s₂) F0 { s with heap := h, toks := tk })
    (done : ∀ m₁ nx h tk, J n m₁ nx → Fr h₀ env.locals h m₁ → News h₀ env.locals h (nx ++ old) → wpAny (model prog w) A (execs orelse env) Q F0 { s with heap := h, toks := tk })
    (ht : ∀ I v, letOwnedTupleGo target (.ref I) v = pure () := by intro _ _; rfl) :
    wpAny (model prog w) A (pyIter (.ref r)) (fun it s₂ => codeAny (model prog w) A (.forLoop target it body orelse env) (fun r s' => match r with | .ok f => Q f s' | .error e => cameBackBy (model prog w) A env F0 e s') s₂) F0 s := by
  refine wpAny_pyIter_range hr hsmall ?_
  have W := Walks.range (prog := prog) (w := w) hh s.heap.objs.size a 1 n
  refine For_J (h₀ := h₀) (Q := Q) (src := []) (news := news) (old := old) J W (fun i h st => ⟨_, st⟩) (Nat.ne_of_gt F.ns.lt) ?_ ?_ (F.push _) (fun p hp => ⟨Heap.get?_push_of_some _ (N p hp).1, (N p hp).2⟩) ?_ hj (by simp) (by simp) ?_ ?_ (ht _)
  · cases e : h₀.get? s.heap.objs.size with
    | none => rfl
    | some o => exact absurd (Heap.lt_size (F.keep _ _ e)) (Nat.lt_irrefl _)
  · show IsRangeIter _ _ _ _ _
    rw [hn]; simpa using Heap.get?_push_size _ rfl
  · intro p hp e
    exact absurd (Heap.lt_size (N p hp).1) (by rw [e]; exact Nat.lt_irrefl _)
  · intro i v m₁ nx h tk oI hi hP hJ hoff hst F₁ N₁
    obtain ⟨t, rfl⟩ := hP
    have := turn i t m₁ nx h tk s.heap.objs.size oI hi hJ rfl hoff ?_ F₁ N₁
    · rw [Int.mul_one]; exact turn_rebase this
    · have := (N₁ (s.heap.objs.size, oI) (by simp)).1
      rw [show h.get? s.heap.objs.size = some _ from hst] at this
      exact ⟨_, (Option.some.inj this).symm⟩
  · intro m₁ nx h tk hJ F₁ N₁
    exact done m₁ nx h tk hJ F₁ N₁

/-- `for .. in l`, l a list that stays as it is -/
theorem For_list_J {target : Expr} {body orelse : List Stmt} {l : Addr} {vs : List Value} {m : Str → Option Value} {news old : List (Addr × Obj)}
    (J : Nat → (Str → Option Value) → List (Addr × Obj) → Prop)
    (hh : A.handled = none) (hl : s.heap.IsList l vs.toArray)
    (F : Fr h₀ env.locals s.heap m) (N : News h₀ env.locals s.heap (news ++ old)) (hj : J 0 m news)
    (hsrc : ∀ i m₁ nx h, i ≤ vs.length → J i m₁ nx → Fr h₀ env.locals h m₁ → News h₀ env.locals h (nx ++ old) → ∀ o, s.heap.get? l = some o → h.get? l = some o)
    (turn : ∀ (i : Nat) v m₁ nx h tk I oI, i < vs.length → vs[i]? = some v → J i m₁ nx → s.heap.objs.size = I → (∀ p ∈ nx, p.1 ≠ I) → (∃ vs, oI.data = .fields vs) → h.IsList l vs.toArray → Fr h₀ env.locals h m₁ → News h₀ env.locals h (nx ++ (I, oI) :: old) →
      wpAny (model prog w) A (assign target env v) (fun _ s₂ => wpAny (model prog w) A (execs body env) (fun f s₃ => match f with
          | .next | .cont => TurnEnd h₀ env.locals (J (i + 1)) ((I, oI) :: old) (some I) s s₃
          | .brk => Q .next s₃
          | .ret v => Q (.ret v) s₃) F0 s₂) F0 { s with heap := h, toks := tk })
    (done : ∀ m₁ nx h tk, J vs.length m₁ nx → Fr h₀ env.locals h m₁ → News h₀ env.locals h (nx ++ old) → wpAny (model prog w) A (execs orelse env) Q F0 { s with heap := h, toks := tk })
    (ht : ∀ I v, letOwnedTupleGo target (.ref I) v = pure () := by intro _ _; rfl) :
    wpAny (model prog w) A (pyIter (.ref l)) (fun it s₂ => codeAny (model prog w) A (.forLoop target it body orelse env) (fun r s' => match r with | .ok f => Q f s' | .error e => cameBackBy (model prog w) A env F0 e s') s₂) F0 s := by
  refine wpAny_pyIter_list hl ?_
  obtain ⟨ol, hol, rl⟩ := id hl
  have hlI : l ≠ s.heap.objs.size := Nat.ne_of_lt (Heap.lt_size hol)
  have W := Walks.list (prog := prog) (w := w) hh s.heap.objs.size l hlI vs.toArray
  have hlen : vs.toArray.size = vs.length := by simp
  rw [hlen] at W
  refine For_J (h₀ := h₀) (Q := Q) (src := [l]) (news := news) (old := old) J W (fun i h st => by obtain ⟨⟨o, ho, _⟩, _⟩ := st; exact ⟨o, ho⟩) (Nat.ne_of_gt F.ns.lt) ?_ ⟨⟨_, Heap.get?_push_size _ rfl, rfl, rfl⟩, hl.push _⟩ (F.push _) (fun p hp => ⟨Heap.get?_push_of_some _ (N p hp).1, (N p hp).2⟩) ?_ hj ?_ ?_ ?_ ?_ (ht _)
  · cases e : h₀.get? s.heap.objs.size with
    | none => rfl
    | some o => exact absurd (Heap.lt_size (F.keep _ _ e)) (Nat.lt_irrefl _)
  · intro p hp e
    exact absurd (Heap.lt_size (N p hp).1) (by rw [e]; exact Nat.lt_irrefl _)
  · intro i m₁ nx h hi hJ F₁ N₁ b hb o e
    rw [List.mem_singleton.mp hb] at e ⊢
    rw [Heap.get?_push_of_some _ hol] at e
    exact hsrc i m₁ nx h hi hJ F₁ N₁ o (hol.trans e)
  · intro b hb
    rw [List.mem_singleton.mp hb]
    exact ⟨hlI, ol, Heap.get?_push_of_some _ hol⟩
  · intro i v m₁ nx h tk oI hi hP hJ hoff hst F₁ N₁
    refine turn_rebase (turn i v m₁ nx h tk s.heap.objs.size oI hi (by simpa using hP) hJ rfl hoff ?_ hst.2 F₁ N₁)
    obtain ⟨⟨o, ho, _, hd⟩, _⟩ := hst
    have := (N₁ (s.heap.objs.size, oI) (by simp)).1
    rw [ho] at this
    cases this
    exact ⟨_, hd⟩
  · intro m₁ nx h tk hJ F₁ N₁
    exact done m₁ nx h tk hJ F₁ N₁
end
end Mine
end
section
open PySem PySem.W PySem.Calls PyProof.Rows
namespace Mine
section
variable {prog : Program} {w : World} {A : Around} {s : Shared} {h₀ : Heap} {L : Addr} {m : Str → Option Value} {news : List (Addr × Obj)} {K : Frag} {p : Program} {loose : List Str} {mg mb : Str → Option Value}
  {R : Result → Shared → Prop} {name qual : Str} {params : Arguments} {body : List Stmt} {scope : Scope} {dV kV doc pm cdv ct oc : Value} {an od : Option Addr} {osl : Array (Option Value)} {f : Addr} {args : Args} {binds : List (Str × Value)}

theorem groundM (F : Fr h₀ L s.heap m) (N : News h₀ L s.heap news) :
    Fr h₀ L (hideAll s.heap (news.map (·.1))) m ∧ h₀.StaysIn (hideAll s.heap (news.map (·.1))) ∧
      ∀ v s', LeaveK h₀ L m (hideAll s.heap (news.map (·.1))) R v s' → R (.ok (.ret v)) s' := by
  have nm : ∀ b o, h₀.get? b = some o → b ∉ news.map (·.1) := fun b o e q => by
    obtain ⟨p, hp, rfl⟩ := List.mem_map.mp q
    rw [(N p hp).2.2] at e; cases e
  have st : h₀.StaysIn (hideAll s.heap (news.map (·.1))) := fun b o e => hideAll_get _ (F.keep b o e) (nm b o e)
  obtain ⟨oL, es, ep, hL, hLd, hLk, hLf⟩ := F.ns
  have nL : L ∉ news.map (·.1) := fun q => by
    obtain ⟨p, hp, e⟩ := List.mem_map.mp q
    exact (N p hp).2.1 e
  have hLg := hideAll_get (news.map (·.1)) hL nL
  refine ⟨⟨⟨oL, es, ep, hLg, hLd, hLk, hLf⟩, st, F.above⟩, st, fun v s' hl => ?_⟩
  obtain ⟨L', m', news', F', N', k⟩ := hl
  refine k ⟨⟨oL, es, ep, F'.keep L oL hLg, hLd, hLk, hLf⟩, fun b o e => F'.keep b o (st b o e), F.above⟩ fun p hp => ⟨(N' p hp).1, fun q => ?_, ?_⟩
  · have := (N' p hp).2.2; rw [q, hLg] at this; cases this
  · cases q : h₀.get? p.1 with
    | none => rfl
    | some o => have := (N' p hp).2.2; rw [st _ _ q] at this; cases this

/-- the same, only a part of the ledger handed to the def's changes; the rest stays -/
theorem enter_mut {mu rest : List (Addr × Obj)} (F : Fr h₀ L s.heap m) (X₀ : K.In h₀) (N : News h₀ L s.heap mu) (Nr : News h₀ L s.heap rest) (hap : ∀ p ∈ rest, p.1 ∉ mu.map (·.1)) (T : TopRead p loose mg mb h₀)
    (ho : K.lookup f = some ⟨oc, od, .func (fnOf name qual params body scope dV kV doc pm an cdv ct), osl⟩) (hcd : codeIn K cdv qual = true) (hroom : A.depth < recursionLimit)
    (hbind : BindsTo s (fnOf name qual params body scope dV kV doc pm an cdv ct) args binds) (hloc : ∀ y ∈ binds, scope.names.lookup y.1 = some .local)
    (h : ∀ g L' h₁, Fr h₀ L g m → Fr g L' h₁ (fun y => binds.reverse.lookup y) → News g L' h₁ mu → K.In g → TopRead p loose mg mb g → (∀ p ∈ mu, p.1 < L') → (∀ p ∈ rest, p.1 < L') →
      wpAny (model prog w) (A.deeper (envOf qual scope L' f cdv)) (execs body (envOf qual scope L' f cdv))
        (fun fl s' => LeaveK h₀ L m g (fun r s'' => News h₀ L s''.heap rest → (∀ p ∈ rest, p.1 < L') → R r s'') (match fl with | .ret v => v | _ => .none) s') F0
        { s with heap := h₁, toks := s.toks + binds.length })
    (hco : scope.isCoroutine = false) (hgen : scope.isGenerator = false) (hk : scope.kind = .function)
    (hcell : ∀ x ∈ scope.names, x.2 ≠ .cell) : codeAny (model prog w) A (.call (.ref f) args) R s := by
  obtain ⟨FG, st, lv⟩ := groundM (R := fun r s'' => News h₀ L s''.heap rest → (∀ p ∈ rest, p.1 < s.heap.objs.size) → R r s'') F N
  refine codeAny_call_def (fd := fnOf name qual params body scope dV kV doc pm an cdv ct) (body := body) (binds := binds) hroom ((X₀.keeps F.keep) _ _ ho) rfl (T.nolimit.keeps F.keep) (codeRec_of (X₀.keeps F.keep) hcd) rfl hbind hcell hloc (fun h₁ hns hk₁ => ?_) hco hgen hk
  have hlt : ∀ p ∈ rest, p.1 < s.heap.objs.size := fun p hp => Heap.lt_size (Nr p hp).1
  refine wpAny_mono (h _ s.heap.objs.size h₁ FG ⟨hns, fun b o e => hk₁ b o (of_hideAll _ e), Nat.le_of_eq (hideAll_size _ _)⟩
    (fun p hp => ⟨hk₁ _ _ (N p hp).1, Nat.ne_of_lt (Heap.lt_size (N p hp).1), hideAll_none _ (List.mem_map_of_mem hp)⟩) (X₀.keeps st) (T.keeps st) (fun p hp => Heap.lt_size (N p hp).1) hlt) (fun fl s' hl => ?_) fun _ _ e => e.elim
  have hr : News h₀ L s'.heap rest := by
    obtain ⟨L', m', news', F', N', k⟩ := hl
    exact fun p hp => ⟨F'.keep _ _ (hideAll_get _ (Nr p hp).1 (hap p hp)), (Nr p hp).2⟩
  exact lv _ _ hl hr hlt
end
end Mine
end
section
open PySem PySem.W PySem.Calls PyProof.Rows Mine
set_option Elab.async false
set_option maxRecDepth 100000
set_option maxHeartbeats 4000000
namespace Mine
abbrev pr1 : Program := PySem.Challenge.rw_wn0034_02.row.prog
abbrev TR1 (mg mb : Str → Option Value) (h : Heap) : Prop := TopRead hd2.view_39 (looseW hd2.view_39 []) mg mb h

abbrev entryD (w : World) (a r d q : Value) (t1 t2 t3 t4 : Tok) : Obj := dictOf
  [⟨PyData.keyHash w.params (Str.ofString "useragents"), .str (Str.ofString "useragents") t1, a⟩, ⟨PyData.keyHash w.params (Str.ofString "rulelines"), .str (Str.ofString "rulelines") t2, r⟩,
   ⟨PyData.keyHash w.params (Str.ofString "delay"), .str (Str.ofString "delay") t3, d⟩, ⟨PyData.keyHash w.params (Str.ofString "req_rate"), .str (Str.ofString "req_rate") t4, q⟩] 4

theorem news4 {h₀ h : Heap} {L : Addr} {a b c d : Addr × Obj} {news : List (Addr × Obj)} (N : News h₀ L h [a, b, c, d]) (R : News h₀ L h news) : News h₀ L h (c :: d :: b :: a :: news) := by
  intro p hp
  simp only [List.mem_cons] at hp
  rcases hp with rfl | rfl | rfl | rfl | hp
  · exact N _ (by simp)
  · exact N _ (by simp)
  · exact N _ (by simp)
  · exact N _ (by simp)
  · exact R p hp

theorem entry_new (w : World) : PySem.Challenge.rw_wn0034_02.row.prog = pr1 → ∀ (mg mb : Str → Option Value) (A : Around) (s : Shared) (h₀ : Heap) (L : Addr) (m : Str → Option Value) (news : List (Addr × Obj)) (Q : Value → Shared → Prop),
    A.handled = none → A.depth + 5 < recursionLimit → A.units + 100 < cLine → Fr h₀ L s.heap m → News h₀ L s.heap news → (hd2.heap_39 w.params).In h₀ → TR1 mg mb h₀ →
    (∀ x dx l1 l2 h' tk t1 t2 t3 t4, Fr h₀ L h' m → News h₀ L h' ((x, instObj 66 dx) :: (dx, entryD w (.ref l1) (.ref l2) .none .none t1 t2 t3 t4) :: (l1, W.listOf #[] 0) :: (l2, W.listOf #[] 0) :: news) →
      (∀ p ∈ news, p.1 < dx) → dx < x → x < l1 → l1 < l2 → Q (.ref x) { s with heap := h', toks := tk }) →
    wpAny (model pr1 w) A (call (.ref 66) [] []) Q F0 s := by
  k_fill
  intro _ mg mb A s h₀ L m news Q hh hd hu F N X T h
  k_dflt (refine' call_cls F X N ?k1 ?k2 ?k3 ?_)
  case k1 => k_is
  case k2 => k_is
  case k3 => k_is
  intro x dx h' F' N' hlt hdx
  k_lt2 hdx
  k_dflt (refine' enter_mut (mu := [(x, instObj 66 dx), (dx, dictOf [] 0)]) (rest := news) (binds := [(Str.ofString "self", .ref x)]) F' X (fun p hp => N' p (by simp at hp ⊢; exact hp.imp id .inl)) (fun p hp => N' p (by simp [hp])) ?hap T ?k4 ?k5 ?k6 ?k7 ?k8 ?_ ?c1 ?c2 ?c3 ?c4)
  case hap =>
    intro p hp
    have := hlt p hp
    simp only [List.map_cons, List.map_nil, List.mem_cons, List.not_mem_nil, or_false, not_or]
    have h1 := ltN this
    have h2 := hdx
    exact ⟨neN (by omega), neN (by omega)⟩
  case k4 => k_is
  case k5 => k_is
  case k6 => 
    rw [depth_under_make]; omega
  case k7 => exact BindsTo.of_eq rfl
  case k8 => exact locs rfl
  case c1 => exact rfl
  case c2 => exact rfl
  case c3 => exact rfl
  case c4 => decide
  intro g L' h₁ FG F1 N1 X1 T1 l1 l2
  k_lt l1
  (try dsimp only)
  k_unmd
  k_fold
  k_steps
  rename News h₀ L _ news => hr
  rename Fr h₀ L _ m => kF
  rename News h₀ L _ (_ :: _) => kN
  rename _ ∧ _ ∧ _ => lt2
  obtain ⟨lt2, _, _⟩ := lt2
  rename _ ∧ _ => lt1
  exact h x dx _ _ _ _ _ _ _ _ kF (news4 kN hr) hlt hdx lt1.1 lt2
end Mine
end
section
open PySem PySem.W PySem.Calls PyProof.Rows
set_option maxRecDepth 100000
namespace Mine
theorem b_entry_set_getattribute : entryFor table "set.__getattribute__" = some Builtin.«object.__getattribute__» :=
  entryFor_alias (id' := "object.__getattribute__") (by kernel_rfl) (by decide +kernel) (by decide +kernel) (by kernel_rfl)
theorem b_slot_md_get : Slot "method_descriptor" "__get__" "method_descriptor.__get__" :=
  .of (owner := "method_descriptor") (n := "__get__") (by rw [typeLookup_type, builtinLookup_eq_fast]; kernel_rfl) (by decide +kernel) (by decide +kernel) (by decide +kernel)
    (by first | exact .inl (by decide +kernel) | exact .inr (by decide +kernel)) (by rw [isSubtype_type]; kernel_rfl)
theorem b_entry_md_get : entryFor table "method_descriptor.__get__" = some Builtin.«method_descriptor.__get__» := entryFor_of_tree (by kernel_rfl)
theorem b_args_md_get (a b c : Value) : argsOk "method_descriptor.__get__" ⟨[a, b, c], []⟩ := by unfold argsOk; kernel_rfl
theorem b_set_contains_lookup : typeLookup (.type "set") "__contains__" = pure (some (.builtin "set.__contains__")) := by rw [typeLookup_type, builtinLookup_eq_fast]; kernel_rfl
theorem b_set_getattr_none : typeLookup (.type "set") "__getattr__" = pure none := by rw [typeLookup_type, builtinLookup_eq_fast]; kernel_rfl
theorem b_md_set : typeLookup (.type "method_descriptor") "__set__" = pure none := by rw [typeLookup_type, builtinLookup_eq_fast]; kernel_rfl
theorem b_md_delete : typeLookup (.type "method_descriptor") "__delete__" = pure none := by rw [typeLookup_type, builtinLookup_eq_fast]; kernel_rfl

set_option maxHeartbeats 2000000 in
theorem b_own_set {prog : Program} {w : World} {A : Around} {s : Shared} {a : Addr} {es : Array (Int × Value)} {ep : Nat} {t : SetTable}
    (ho : s.heap.get? a = some { cls := .type "set", dict := none, data := .set es ep t, slots := #[] }) :
    wpAny (model prog w) A (Builtin.ObjectAttr.ownThenClass (Value.ref a) (Str.ofString "__contains__") (some (Value.builtin "set.__contains__")) (some (Value.builtin "method_descriptor.__get__")))
      (fun r s' => r = .bind (Value.builtin "method_descriptor.__get__") (Value.builtin "set.__contains__") ∧ s' = s) F0 s := by
  obtain ⟨hp, g, d, tk, os⟩ := s
  unfold Builtin.ObjectAttr.ownThenClass
  repeat (any_goals (first | assumption | wp_step))
  exact ⟨rfl, rfl⟩

set_option maxHeartbeats 2000000 in
theorem getAttr_set_contains {prog : Program} {w : World} {A : Around} {E : Value → Shared → Prop} {s : Shared} {a : Addr} {es : Array (Int × Value)} {ep : Nat} {t : SetTable} {Q : Value → Shared → Prop}
    (ho : s.heap.get? a = some { cls := .type "set", dict := none, data := .set es ep t, slots := #[] })
    (h : Q (.ref s.heap.objs.size) { s with heap := s.heap.push { cls := .type "builtin_function_or_method", data := .fields #[.builtin "set.__contains__", .ref a] }, toks := s.toks + 1 }) :
    wpAny (model prog w) A (getAttr (.ref a) "__contains__" true) Q E s := by
  obtain ⟨hp, g, d, tk, os⟩ := s
  have hT : ∀ tk', (⟨hp, g, d, tk', os⟩ : Shared).TypeIs (.ref a) "set" := fun _ => ⟨_, ho, rfl⟩
  have f3 := PySem.F.slot_set_getattribute.lookup
  have f4 := PySem.F.slot_set_getattribute.bind (.ref a)
  have f5 := b_set_getattr_none
  unfold getAttr getAttrBy
  repeat (any_goals (first | assumption | exact hT _ | ((with_reducible show wpAny _ _ (call (Value.builtin "set.__getattribute__") _ _) _ _ _); refine wpAny_call_entry PySem.F.slot_set_getattribute (hT _) b_entry_set_getattribute ?_ (PySem.F.args_set_getattribute_2 _ _)) | wp_step))
  dsimp only
  refine wpAny_of_eq b_set_contains_lookup ?_
  have f6 := PySem.F.type_set_contains
  have f7 := b_slot_md_get.lookup
  have f8 := b_md_set
  have f9 := b_md_delete
  have f10 := b_slot_md_get.bind (.builtin "set.__contains__")
  refine wpAny_bind ?_
  show wpAny _ _ (specialOf (.builtin "set.__contains__") "__get__") _ _ _
  refine wpAny_specialOf_val f6 f7 ?_
  refine wpAny_bind ?_
  show wpAny _ _ (do if ← Builtin.ObjectAttr.takesStores (.builtin "set.__contains__") then pure (some (Value.builtin "method_descriptor.__get__", Value.builtin "set.__contains__")) else pure none) _ _ _
  refine wpAny_bind ?_
  unfold Builtin.ObjectAttr.takesStores
  refine wpAny_bind ?_
  refine wpAny_specialOf_val f6 f8 ?_
  show wpAny _ _ (do return (← specialOf (.builtin "set.__contains__") "__delete__").isSome) _ _ _
  refine wpAny_bind ?_
  refine wpAny_specialOf_val f6 f9 ?_
  refine wpAny_pure ?_
  refine wpAny_pure ?_
  dsimp only
  refine wpAny_mono (b_own_set ho) (fun r s' hr => ?_) fun _ _ e => e.elim
  obtain ⟨rfl, rfl⟩ := hr
  dsimp only
  unfold Builtin.ObjectAttr.bindTo
  dsimp only
  refine wpAny_bind (wpAny_holding ?_)
  refine wpAny_call_entry (self := .builtin "set.__contains__") b_slot_md_get ?_ b_entry_md_get ?_ (b_args_md_get _ _ _)
  · exact PySem.F.type_set_contains
  · unfold Builtin.«method_descriptor.__get__»
    have f11 : isSubtype (.type "set") (.type "set") = pure true := sub_set_self
    repeat (any_goals (first | assumption | exact hT _ | wp_step))
    rw [show ".".intercalate ("set.__contains__".cutAt '.').dropLast = "set" from by decide +kernel]
    refine wpAny_of_eq f11 ?_
    simp only [Bool.not_true, Bool.false_eq_true, if_false]
    unfold newFields
    repeat (any_goals (first | assumption | exact hT _ | wp_step))
    exact ⟨_, rfl, wpAny_pure ⟨_, rfl, wpAny_pure h⟩⟩
end Mine
end
section
open PySem PySem.W PySem.Calls PyProof.Rows
set_option maxRecDepth 100000
namespace Mine
section
variable {prog : Program} {w : World} {K : Type} [DecidableEq K] {knd : KeyKind prog w K} {A : Around} {E : Value → Shared → Prop} {s : Shared}
abbrev boundC (S : Addr) : Obj := { cls := .type "builtin_function_or_method", data := .fields #[.builtin "set.__contains__", .ref S] }

theorem b_sub_set_module : isSubtype (.type "set") (.type "module") = pure false := by rw [isSubtype_type]; kernel_rfl
theorem b_kind_contains : builtinKind "set.__contains__" = some .method := by decide +kernel
theorem b_checkArgs (sig : Manifest.Signature) (hs : Manifest.signature? "set.__contains__" = some sig) (a b : Value) : Bind.checkArgs "set.__contains__" { sig with full := s!"{Bind.lastOf "set"}.{Bind.lastOf "set.__contains__"}" } ⟨[a, b], []⟩ = pure () := by
  have e : Manifest.signature? "set.__contains__" = some ⟨.oneArg, "set.__contains__", "__contains__", .self, [⟨"object", .posOnly, true⟩]⟩ := by
    rw [signature?_of (id := "set.__contains__") (n := ['_', '_', 's', 'n', 'i', 'a', 't', 'n', 'o', 'c', '_', '_']) (o := ['t', 'e', 's']) (by kernel_rfl) PySem.F.owner_set]; kernel_rfl
  rw [e] at hs
  cases hs
  kernel_rfl

theorem check_contains {S : Addr} {es : Array (Int × Value)} {ep : Nat} {t : SetTable} {x : Value} {Q : Unit → Shared → Prop} (ho : s.heap.get? S = some { cls := .type "set", dict := none, data := .set es ep t, slots := #[] })
    (h : Q () s) : wpAny (model prog w) A (checkBoundCall "set.__contains__" ⟨[.ref S, x], []⟩) Q E s := by
  have hT : s.TypeIs (.ref S) "set" := ⟨_, ho, rfl⟩
  unfold checkBoundCall
  cases e : Manifest.signature? "set.__contains__" with
  | none => exact wpAny_pure h
  | some sig =>
    simp only [b_kind_contains]
    rw [if_neg (by decide)]
    refine wpAny_bind (wpAny_isInstance hT b_sub_set_module ?_)
    rw [if_neg (by decide +kernel)]
    refine wpAny_bind ?_
    unfold isType loadHead
    refine wpAny_bind (wpAny_loadPart ho ?_)
    refine wpAny_pure ?_
    simp only [Bool.false_eq_true, if_false]
    refine wpAny_bind (wpAny_typeOf hT ?_)
    exact wpAny_of_eq (b_checkArgs sig e _ _) h

theorem call_contains {mw S : Addr} {Sf : K → Bool} {n : Nat} {k : K} {x : Value} {Q : Value → Shared → Prop} (hm : s.heap.get? mw = some (boundC S)) (hkey : knd.is k x = true) (hsc : x.scannable = true)
    (hS : s.heap.SetOf knd S Sf n) (h : Q (.bool (Sf k)) { s with toks := s.toks + 1 }) : wpAny (model prog w) A (call (.ref mw) [x]) Q E s := by
  refine wpAny_call (codeAny_of_tree ?_)
  rw [Around.under_plain rfl rfl]
  show wpAny _ A.in1 (callAny (.ref mw) ⟨[x], []⟩) _ _ s
  unfold callAny
  dsimp only
  refine wpAny_bind (wpAny_load hm ?_)
  dsimp only
  rw [if_pos (by decide)]
  show wpAny _ _ (if (Value.type "builtin_function_or_method" != Value.type "method") = true then do checkBoundCall "set.__contains__" ⟨[.ref S, x], []⟩; again (Code.builtin "set.__contains__" ⟨[.ref S, x], []⟩) else _) _ _ _
  rw [if_pos (by decide)]
  obtain ⟨o, es, ep, t, ho, hex, hd, r⟩ := id hS
  obtain ⟨cls, dict, data, slots⟩ := o
  obtain ⟨h1, h2, h3⟩ := hex
  simp only at h1 h2 h3 hd
  subst h1 h2 h3 hd
  refine wpAny_bind (check_contains ho ?_)
  refine wpAny_pure ⟨plainId_quiet PySem.F.slot_set_contains.plain _, codeAny_builtin entry_set_contains ?_⟩
  rw [Around.under_plainId PySem.F.slot_set_contains.plain]
  unfold Builtin.«frozenset.__contains__» Builtin.Frozenset.oneOther
  simp only [List.isEmpty_nil, bind_assoc]
  unfold Builtin.Frozenset.addrOf Builtin.Frozenset.withSetAsKey setContains
  refine wpAny_bind (wpAny_pure ?_)
  try dsimp only
  refine wpAny_bind (wpAny_pure ?_)
  try dsimp only
  refine wpAny_bind (wpAny_tryCatch ?_)
  refine wpAny_holding ?_
  refine wpAny_bind (knd.pyHash hkey ?_)
  refine wpAny_bind (wpAny_setFind_of (s := { s with toks := s.toks + 1 }) hkey hsc hS fun r hr => ?_)
  refine wpAny_pure ?_
  show wpAny _ _ (ret (Value.bool r.isSome)) _ _ _
  rw [hr]
  exact wpAny_pure h
end
end Mine
end
section
open PySem PySem.W PySem.Calls PyProof.Rows
set_option maxRecDepth 100000
namespace Mine
theorem b_mro_filter : mroOf (.type "filter") = pure [.type "filter", .type "object"] := by rw [mroOf_type]; kernel_rfl
theorem b_lookup_filter_new : typeLookup (.type "filter") "__new__" = pure (some (.builtin "filter.__new__")) := by rw [typeLookup_type, builtinLookup_eq_fast]; kernel_rfl
theorem b_slot_filter_init : Slot "filter" "__init__" "object.__init__" :=
  .of (owner := "object") (n := "__init__") (by rw [typeLookup_type, builtinLookup_eq_fast]; kernel_rfl) (by decide +kernel) (by decide +kernel) (by decide +kernel)
    (by first | exact .inl (by decide +kernel) | exact .inr (by decide +kernel)) (by rw [isSubtype_type]; kernel_rfl)
theorem b_called_filter : TypeCalled "filter" "filter.__new__" "object.__init__" :=
  ⟨by decide +kernel, by decide +kernel, ⟨_, _, b_mro_filter⟩, madeBy_type b_mro_filter b_lookup_filter_new (by decide +kernel), by decide +kernel, by rw [isSubtype_type]; kernel_rfl, b_slot_filter_init⟩
theorem b_typeCall_filter (a b : Value) : checkTypeCall "filter" ⟨[a, b], []⟩ = pure () := by kernel_rfl
theorem b_newCall_filter (a b : Value) : checkBuiltinCall "filter.__new__" ⟨[.type "filter", a, b], []⟩ = pure () := by kernel_rfl
theorem b_entry_filter_new : entryFor table "filter.__new__" = some Builtin.«filter.__new__» := entryFor_of_tree (by kernel_rfl)
theorem b_slot_filter_iter : Slot "filter" "__iter__" "filter.__iter__" :=
  .of (owner := "filter") (n := "__iter__") (by rw [typeLookup_type, builtinLookup_eq_fast]; kernel_rfl) (by decide +kernel) (by decide +kernel) (by decide +kernel)
    (by first | exact .inl (by decide +kernel) | exact .inr (by decide +kernel)) (by rw [isSubtype_type]; kernel_rfl)
theorem b_slot_filter_next : Slot "filter" "__next__" "filter.__next__" :=
  .of (owner := "filter") (n := "__next__") (by rw [typeLookup_type, builtinLookup_eq_fast]; kernel_rfl) (by decide +kernel) (by decide +kernel) (by decide +kernel)
    (by first | exact .inl (by decide +kernel) | exact .inr (by decide +kernel)) (by rw [isSubtype_type]; kernel_rfl)
theorem b_entry_filter_next : entryFor table "filter.__next__" = some Builtin.«filter.__next__» := entryFor_of_tree (by kernel_rfl)
theorem b_entry_filter_iter : entryFor table "filter.__iter__" = some Builtin.«dict_keyiterator.__iter__» :=
  entryFor_alias (id' := "dict_keyiterator.__iter__") (by kernel_rfl) (by first | rfl | decide +kernel) (by decide +kernel) (by kernel_rfl)
theorem b_args_filter_iter (a : Value) : argsOk "filter.__iter__" ⟨[a], []⟩ := by unfold argsOk; kernel_rfl
theorem b_args_filter_next (a : Value) : argsOk "filter.__next__" ⟨[a], []⟩ := by unfold argsOk; kernel_rfl
abbrev filterO (mw I : Addr) : Obj := { cls := .type "filter", data := .fields #[.ref mw, .ref I] }
abbrev listItO (l : Addr) (i : Nat) : Obj := { cls := .type "list_iterator", data := .fields #[.ref l, .int i 0] }

theorem b_filter_new (f : Value) (l : Addr) (items : Array Value) :
    Meets (Builtin.«filter.__new__» ⟨[.type "filter", f, .ref l], []⟩) (fun _ R s => s.heap.IsList l items ∧ R (.ok (.ret (.ref (s.heap.objs.size + 1)))) { s with heap := (s.heap.push (listItO l 0)).push { cls := .type "filter", data := .fields #[f, .ref s.heap.objs.size] } }) :=
  .of_wp fun prog w A R s h => by
    obtain ⟨hp, g, d, tk, os⟩ := s
    obtain ⟨hl, h⟩ := h
    have hsub : isSubtype (.type "filter") (.type "filter") = pure true := b_called_filter.sub
    unfold Builtin.«filter.__new__»
    generalize hPI : pyIter = PI
    wp_walk
    subst hPI
    refine wpAny_pyIter_list hl ?_
    wp_walk
    refine ⟨_, rfl, ?_⟩
    rw [Heap.size_push]
    exact h
section
variable {prog : Program} {w : World} {A : Around} {E : Value → Shared → Prop} {s : Shared}
theorem call_filter {f : Value} {l : Addr} {items : Array Value} {Q : Value → Shared → Prop} (hl : s.heap.IsList l items)
    (h : Q (.ref (s.heap.objs.size + 1)) { s with heap := (s.heap.push (listItO l 0)).push { cls := .type "filter", data := .fields #[f, .ref s.heap.objs.size] } }) :
    wpAny (model prog w) A (call (.type "filter") [f, .ref l]) Q E s :=
  callType_new b_called_filter (by decide) (b_typeCall_filter _ _) (b_newCall_filter _ _) (fun obj => PySem.F.initArgs_range_2 obj _ _) b_entry_filter_new
    (b_filter_new f l items) ⟨hl, ⟨_, by have := Heap.get?_push_size (s.heap.push (listItO l 0)) (o := { cls := .type "filter", data := .fields #[f, .ref s.heap.objs.size] }) rfl; rwa [Heap.size_push] at this, rfl⟩, h⟩

theorem next_list_item {it l : Addr} {i : Nat} {items : Array Value} {x : Value} {Q : Option Value → Shared → Prop} (hit : s.heap.IsListIter it l i)
    (hl : s.heap.IsList l items) (hx : items[i]? = some x)
    (hQ : ∀ h', h'.IsListIter it l (i + 1) → Heap.SameBut it s.heap h' → Q (some x) { s with heap := h' }) :
    wpAny (model prog w) A (callSpecial? (.ref it) "__next__") Q E s := by
  obtain ⟨o, ho, hc, hd⟩ := id hit
  obtain ⟨ol, hol, _, nl, hdl⟩ := hl
  refine wpAny_callSpecial?_slot (name := Str.ofString "__next__") hit.typeIs slot_listiter_next
    (wpAny_call_entry slot_listiter_next hit.typeIs entry_listiter_next ?_ (args_listiter_next _))
  show wpAny _ _ (field (.ref it) 0 >>= _) _ _ s
  refine wpAny_bind (wpAny_field ho hd (x := .ref l) rfl ?_)
  show wpAny _ _ (if (Value.ref l == Value.none) = true then _ else _) _ _ s
  rw [if_neg (show ¬ ((Value.ref l == Value.none) = true) from Bool.false_ne_true)]
  show wpAny _ _ (field (.ref it) 1 >>= _) _ _ s
  refine wpAny_bind (wpAny_field ho hd (x := .int i 0) rfl ?_)
  show wpAny _ _ (seqItems? (.ref l) >>= _) _ _ s
  refine wpAny_bind (wpAny_seqItems hol hdl ?_)
  simp only [Int.toNat_natCast, hx]
  refine wpAny_bind (wpAny_setField ho hd (by simp) (wpAny_pure ⟨x, rfl, hQ _ ?_ (Heap.SameBut.update ..)⟩))
  exact ⟨_, Heap.get?_update_self _ ho (Obj.isFreed_of_fields (Obj.data_mapFields hd _)), (Obj.cls_mapFields ..).trans hc, by
    rw [Obj.data_mapFields hd]; simp [rawInt]⟩

theorem next_list_end {it l : Addr} {i : Nat} {items : Array Value} {Q : Option Value → Shared → Prop} (hh : A.handled = none)
    (hit : s.heap.IsListIter it l i) (hl : s.heap.IsList l items) (hx : items[i]? = none)
    (hE : ∀ h' e, Heap.ExtBut it s.heap h' → Shared.TypeIs { s with heap := h' } (.ref e) "StopIteration" → E (.ref e) { s with heap := h' }) :
    wpAny (model prog w) A (callSpecial? (.ref it) "__next__") Q E s := by
  obtain ⟨o, ho, hc, hd⟩ := id hit
  obtain ⟨ol, hol, _, nl, hdl⟩ := hl
  refine wpAny_callSpecial?_slot (name := Str.ofString "__next__") hit.typeIs slot_listiter_next
    (wpAny_call_entry slot_listiter_next hit.typeIs entry_listiter_next ?_ (args_listiter_next _))
  show wpAny _ _ (field (.ref it) 0 >>= _) _ _ s
  refine wpAny_bind (wpAny_field ho hd (x := .ref l) rfl ?_)
  show wpAny _ _ (if (Value.ref l == Value.none) = true then _ else _) _ _ s
  rw [if_neg (show ¬ ((Value.ref l == Value.none) = true) from Bool.false_ne_true)]
  show wpAny _ _ (field (.ref it) 1 >>= _) _ _ s
  refine wpAny_bind (wpAny_field ho hd (x := .int i 0) rfl ?_)
  show wpAny _ _ (seqItems? (.ref l) >>= _) _ _ s
  refine wpAny_bind (wpAny_seqItems hol hdl ?_)
  simp only [Int.toNat_natCast, hx]
  refine wpAny_bind (wpAny_rule (wpAny_bind (wpAny_setField ho hd (by simp) ?_)))
  show wpAny _ _ (newExc (.type "StopIteration") [] >>= _) _ _ _
  refine wpAny_bind ?_
  simp only [newExc, newTuple]
  refine wpAny_bind (wpAny_newObj_type ?_ (by size_fits))
  refine wpAny_bind (m := firstArgMember _ _) (wpAny_of_eq (a := Value.none) (by first | rfl | (simp only [firstArgMember]; rfl)) ?_)
  refine wpAny_newObj_type ?_ (by size_fits)
  simp only [raiseNew]
  refine wpAny_bind (wpAny_handled ?_)
  rw [show A.in1.handled = none from hh]
  refine wpAny_bind (wpAny_pure (wpAny_throw ?_))
  exact hE _ _ (((Heap.SameBut.update ..).extBut.push _).push _) ⟨_, Heap.get?_push_size _ rfl, rfl⟩
end
end Mine
end
section
open PySem PySem.W PySem.Calls PyProof.Rows
set_option maxRecDepth 100000
namespace Mine

theorem SetOf.keep {prog : Program} {w : World} {K : Type} [DecidableEq K] {knd : KeyKind prog w K} {h h' : Heap} {a : Addr} {S : K → Bool} {n : Nat} (x : h.SetOf knd a S n) (e : ∀ o, h.get? a = some o → h'.get? a = some o) : h'.SetOf knd a S n := by
  obtain ⟨o, es, ep, t, ho, r⟩ := x
  exact ⟨o, es, ep, t, e o ho, r⟩

section
variable {prog : Program} {w : World} {A : Around} {s : Shared}

structure FSt (prog : Program) (w : World) (Fo I l mw S : Addr) (items : Array Value) (Sf : Str → Bool) (n : Nat) (j : Nat) (h : Heap) : Prop where
  fo : h.get? Fo = some (filterO mw I)
  it : h.IsListIter I l j
  ls : h.IsList l items
  bm : h.get? mw = some (boundC S)
  st : h.SetOf (strKind prog w) S Sf n

theorem FSt.keep {Fo I l mw S : Addr} {items : Array Value} {Sf : Str → Bool} {n j : Nat} {h h' : Heap} (x : FSt prog w Fo I l mw S items Sf n j h) (e : ∀ b o, h.get? b = some o → (b = Fo ∨ b = I ∨ b = l ∨ b = mw ∨ b = S) → h'.get? b = some o) :
    FSt prog w Fo I l mw S items Sf n j h' :=
  ⟨e _ _ x.fo (.inl rfl), x.it.at fun o q => e _ o q (.inr (.inl rfl)), x.ls.at fun o q => e _ o q (.inr (.inr (.inl rfl))), e _ _ x.bm (.inr (.inr (.inr (.inl rfl)))), SetOf.keep x.st fun o q => e _ o q (.inr (.inr (.inr (.inr rfl))))⟩

theorem FSt.ne {Fo I l mw S : Addr} {items : Array Value} {Sf : Str → Bool} {n j : Nat} {h : Heap} (x : FSt prog w Fo I l mw S items Sf n j h) : Fo ≠ I ∧ l ≠ I ∧ mw ≠ I ∧ S ≠ I := by
  obtain ⟨oi, hoi, hci, hdi⟩ := x.it
  refine ⟨fun e => ?_, fun e => ?_, fun e => ?_, fun e => ?_⟩
  · have := x.fo; rw [e, hoi] at this; cases this; simp at hci
  · obtain ⟨ol, hol, hcl, _⟩ := x.ls
    rw [e, hoi] at hol; cases hol; rw [hci] at hcl; simp at hcl
  · have := x.bm; rw [e, hoi] at this; cases this; simp at hci
  · obtain ⟨o, es, ep, t, ho, hex, _⟩ := x.st
    rw [e, hoi] at ho; cases ho; rw [hex.1] at hci; simp at hci

def keepS (Sf : Str → Bool) : Value → Bool
  | .str x _ => Sf x
  | _ => false

theorem code_filter_next {R : Result → Shared → Prop} {Fo I l mw S : Addr} {items : Array Value} {Sf : Str → Bool} {n : Nat} (hh : A.handled = none) (hs : ∀ (j : Nat) v, items[j]? = some v → ∃ x t, v = .str x t) :
    ∀ (k j : Nat) (s : Shared), items.size - j = k → FSt prog w Fo I l mw S items Sf n j s.heap →
    (∀ j' v h' tk, j ≤ j' → items[j']? = some v → keepS Sf v = true → (∀ i u, j ≤ i → i < j' → items[i]? = some u → keepS Sf u = false) → FSt prog w Fo I l mw S items Sf n (j' + 1) h' → (∀ b o, b ≠ I → s.heap.get? b = some o → h'.get? b = some o) →
      R (.ok (.ret v)) { s with heap := h', toks := tk }) →
    ((∀ i u, j ≤ i → items[i]? = some u → keepS Sf u = false) → ∀ h' tk e, (∀ b o, b ≠ I → s.heap.get? b = some o → h'.get? b = some o) → Shared.TypeIs { s with heap := h', toks := tk } (.ref e) "StopIteration" → R (.error (.ref e)) { s with heap := h', toks := tk }) →
    codeAny (model prog w) A (.builtin "filter.__next__" ⟨[.ref Fo], []⟩) R s := by
  intro k
  induction k with
  | zero =>
    intro j s hk hst _ hend
    refine codeAny_builtin b_entry_filter_next ?_
    rw [Around.under_plainId b_slot_filter_next.plain]
    show wpAny _ _ (field (.ref Fo) 0 >>= _) _ _ s
    refine wpAny_bind (wpAny_field hst.fo rfl (x := .ref mw) rfl ?_)
    show wpAny _ _ (field (.ref Fo) 1 >>= _) _ _ s
    refine wpAny_bind (wpAny_field hst.fo rfl (x := .ref I) rfl ?_)
    have hx : items[j]? = none := by simp; omega
    refine wpAny_bind (next_list_end hh hst.it hst.ls hx fun h' e hext hT => ?_)
    refine hend (fun i u hi hu => ?_) h' s.toks e (fun b o hb hbo => hext b o hb hbo) hT
    have : i < items.size := (Array.getElem?_eq_some_iff.mp hu).1
    omega
  | succ k ih =>
    intro j s hk hst hfound hend
    have hlt : j < items.size := by omega
    refine codeAny_builtin b_entry_filter_next ?_
    rw [Around.under_plainId b_slot_filter_next.plain]
    show wpAny _ _ (field (.ref Fo) 0 >>= _) _ _ s
    refine wpAny_bind (wpAny_field hst.fo rfl (x := .ref mw) rfl ?_)
    show wpAny _ _ (field (.ref Fo) 1 >>= _) _ _ s
    refine wpAny_bind (wpAny_field hst.fo rfl (x := .ref I) rfl ?_)
    have hx : items[j]? = some items[j] := by simp [hlt]
    refine wpAny_bind (next_list_item hst.it hst.ls hx fun h' hit' hs' => ?_)
    obtain ⟨n1, n2, n3, n4⟩ := hst.ne
    have hst' : FSt prog w Fo I l mw S items Sf n (j + 1) h' :=
      ⟨(hs'.2 _ n1).trans hst.fo, hit', hst.ls.at fun o q => (hs'.2 _ n2).trans q, (hs'.2 _ n3).trans hst.bm, SetOf.keep hst.st fun o q => (hs'.2 _ n4).trans q⟩
    obtain ⟨x, t, hv⟩ := hs j _ hx
    rw [hv] at hx ⊢
    dsimp only
    refine wpAny_bind (wpAny_holding ?_)
    show wpAny _ _ (if (Value.ref mw == Value.none || Value.ref mw == Value.type "bool") = true then _ else _) _ _ _
    rw [if_neg (by simp)]
    refine wpAny_bind (call_contains (knd := strKind prog w) (s := { s with heap := h' }) hst'.bm (strKind_is prog w x t) rfl hst'.st ?_)
    refine wpAny_holding (wpAny_truthy_bool ?_)
    cases hb : Sf x with
    | true =>
      rw [if_pos rfl]
      refine wpAny_pure ?_
      exact hfound j (.str x t) h' _ (Nat.le_refl _) hx hb (fun i u h1 h2 => by omega) hst' fun b o hb' e => (hs'.2 b hb').trans e
    | false =>
      rw [if_neg (by simp)]
      refine wpAny_pure ⟨plainId_quiet b_slot_filter_next.plain _, ?_⟩
      refine ih (j + 1) { s with heap := h', toks := s.toks + 1 } (by omega) hst' ?_ ?_
      · intro j' v h'' tk hj' hv' hkp hno hst'' hk''
        refine hfound j' v h'' tk (by omega) hv' hkp (fun i u h1 h2 hu => ?_) hst'' fun b o hb' e => hk'' b o hb' ((hs'.2 b hb').trans e)
        by_cases hij : i = j
        · subst hij; rw [hx] at hu; cases hu; exact hb
        · exact hno i u (by omega) h2 hu
      · intro hno h'' tk e hk'' hT
        refine hend (fun i u h1 hu => ?_) h'' tk e (fun b o hb' q => hk'' b o hb' ((hs'.2 b hb').trans q)) hT
        by_cases hij : i = j
        · subst hij; rw [hx] at hu; cases hu; exact hb
        · exact hno i u (by omega) hu
end
end Mine
namespace Mine
section
variable {prog : Program} {w : World} {A : Around} {s : Shared}

theorem call_slot_code {T : String} {name : Str} {id : String} {self : Value} {Q E : Value → Shared → Prop} (slot : Slot T name id) (hT : s.TypeIs self T) (hok : argsOk id ⟨[self], []⟩)
    (h : codeAny (model prog w) A (.builtin id ⟨[self], []⟩) (fun r s' => match r with | .ok (.ret v) => Q v s' | .ok _ => False | .error e => E e s') s) :
    wpAny (model prog w) A (call (.builtin id) [self]) Q E s := by
  refine wpAny_call (codeAny_of_tree ?_)
  rw [Around.under_plain rfl rfl]
  show wpAny _ A.in1 (callAny (.builtin id) ⟨[self], []⟩) _ _ s
  unfold callAny
  dsimp only
  refine wpAny_bind (slot.check _ _ _ _ _ _ _ _ hT hok ?_)
  exact wpAny_pure ⟨plainId_quiet slot.plain _, h⟩

theorem filter_take_stay {α : Type} (p : α → Bool) (L : List α) (j j' : Nat) (hj : j ≤ j') (h : ∀ i u, j ≤ i → i < j' → L[i]? = some u → p u = false) : (L.take j').filter p = (L.take j).filter p := by
  have e : L.take j' = L.take j ++ (L.drop j).take (j' - j) := by
    rw [← List.take_add]; congr 1; omega
  rw [e, List.filter_append]
  have : ((L.drop j).take (j' - j)).filter p = [] := by
    rw [List.filter_eq_nil_iff]
    intro u hu
    obtain ⟨i, hi⟩ := List.mem_iff_getElem?.mp hu
    rw [List.getElem?_take] at hi
    split at hi
    · rw [List.getElem?_drop] at hi
      have := h (j + i) u (by omega) (by omega) hi
      simp [this]
    · cases hi
  rw [this, List.append_nil]

theorem filter_walks {Fo I l mw S : Addr} {items : Array Value} {Sf : Str → Bool} {n : Nat} (hh : A.handled = none) (hs : ∀ (j : Nat) v, items[j]? = some v → ∃ x t, v = .str x t) :
    Walks prog w A Fo [Fo, I, l, mw, S] [I] (items.toList.filter (keepS Sf)).length (fun i v => (items.toList.filter (keepS Sf))[i]? = some v)
      (fun i h => ∃ j, j ≤ items.size ∧ FSt prog w Fo I l mw S items Sf n j h ∧ ((items.toList.take j).filter (keepS Sf)).length = i) where
  sub := fun b hb => by simp at hb; simp [hb]
  frame := fun i h h' st hk => by
    obtain ⟨j, hj, hf, e⟩ := st
    exact ⟨j, hj, hf.keep fun b o hb hm => hk b (by simpa using hm) o hb, e⟩
  item := fun i s Q E hi st hQ => by
    obtain ⟨j, hj, hf, e⟩ := st
    have hT : s.TypeIs (.ref Fo) "filter" := ⟨_, hf.fo, rfl⟩
    unfold pyNext
    refine wpAny_bind (wpAny_attempt (wpAny_callSpecial?_slot (name := Str.ofString "__next__") hT b_slot_filter_next
      (call_slot_code b_slot_filter_next hT (b_args_filter_next _) (code_filter_next hh hs _ j s rfl hf ?_ ?_))))
    · intro j' v h' tk hjj hv hkp hno hf' hk'
      refine wpAny_pure (hQ v h' tk ?_ ⟨j' + 1, ?_, hf', ?_⟩ fun b o hb e => hk' b o (by simpa using hb) e)
      · have hsplit : items.toList.filter (keepS Sf) = (items.toList.take j').filter (keepS Sf) ++ (items.toList.drop j').filter (keepS Sf) := by
          rw [← List.filter_append, List.take_append_drop]
        have h1 := filter_take_stay (keepS Sf) items.toList j j' hjj (fun i u a b c => hno i u a b (by simpa using c))
        have hlt : j' < items.toList.length := by simpa using (Array.getElem?_eq_some_iff.mp hv).1
        have hv' : items.toList[j'] = v := by
          have := (Array.getElem?_eq_some_iff.mp hv).2
          simpa using this
        show (items.toList.filter (keepS Sf))[i]? = some v
        rw [hsplit, h1, List.getElem?_append_right (by omega), e, Nat.sub_self, List.drop_eq_getElem_cons hlt, hv', List.filter_cons_of_pos hkp]
        rfl
      · exact (Array.getElem?_eq_some_iff.mp hv).1
      · have h1 := filter_take_stay (keepS Sf) items.toList j j' hjj (fun i u a b c => hno i u a b (by simpa using c))
        have hv' : items.toList[j']? = some v := by simpa using hv
        rw [List.take_add_one, hv', List.filter_append, h1, List.length_append, e]
        simp [hkp]
    · intro hno
      exfalso
      have h1 := filter_take_stay (keepS Sf) items.toList j items.toList.length (by simpa using hj) (fun i u a _ c => hno i u a (by simpa using c))
      rw [List.take_length] at h1
      rw [h1] at hi
      omega
  done := fun s Q E st hQ => by
    obtain ⟨j, hj, hf, e⟩ := st
    have hT : s.TypeIs (.ref Fo) "filter" := ⟨_, hf.fo, rfl⟩
    unfold pyNext
    refine wpAny_bind (wpAny_attempt (wpAny_callSpecial?_slot (name := Str.ofString "__next__") hT b_slot_filter_next
      (call_slot_code b_slot_filter_next hT (b_args_filter_next _) (code_filter_next hh hs _ j s rfl hf ?_ ?_))))
    · intro j' v h' tk hjj hv hkp hno hf' hk'
      exfalso
      have h1 := filter_take_stay (keepS Sf) items.toList j j' hjj (fun i u a b c => hno i u a b (by simpa using c))
      have hv' : items.toList[j']? = some v := by simpa using hv
      have h2 : ((items.toList.take (j' + 1)).filter (keepS Sf)).length = ((items.toList.take j).filter (keepS Sf)).length + 1 := by
        rw [List.take_add_one, hv', List.filter_append, h1, List.length_append]
        simp [hkp]
      have h3 : ((items.toList.take (j' + 1)).filter (keepS Sf)).length ≤ (items.toList.filter (keepS Sf)).length :=
        ((List.take_sublist _ _).filter _).length_le
      omega
    · intro hno h' tk ex hk' hTe
      refine wpAny_bind (wpAny_isInstance (T := "StopIteration") (b := true) hTe isSubtype_stop ?_)
      exact wpAny_pure (hQ h' tk fun b o hb q => hk' b o (by simpa using hb) q)
  self := fun i s Q E st hQ => by
    obtain ⟨j, hj, hf, e⟩ := st
    have hT : s.TypeIs (.ref Fo) "filter" := ⟨_, hf.fo, rfl⟩
    refine wpAny_pyIter_slot hT b_slot_filter_iter (wpAny_call_entry b_slot_filter_iter hT b_entry_filter_iter ?_ (b_args_filter_iter _))
    show wpAny _ _ (ret (.ref Fo)) _ _ s
    exact wpAny_pure ⟨_, rfl, "filter", _, hT, b_slot_filter_next.lookup, hQ⟩
end
end Mine
end
section
open PySem PySem.W PySem.Calls PyProof.Rows
set_option maxRecDepth 100000
namespace Mine
theorem b_filter_len : typeLookup (.type "filter") "__len__" = pure none := by rw [typeLookup_type, builtinLookup_eq_fast]; kernel_rfl
theorem b_filter_hint : typeLookup (.type "filter") "__length_hint__" = pure none := by rw [typeLookup_type, builtinLookup_eq_fast]; kernel_rfl
section
variable {prog : Program} {w : World} {A : Around} {E : Value → Shared → Prop} {s : Shared}

theorem hint_filter {Fo : Addr} {o : Obj} {Q : Bool → Shared → Prop} (hf : s.heap.get? Fo = some o) (hc : o.cls = .type "filter") (h : Q true s) : wpAny (model prog w) A (Builtin.List.listLengthHint (.ref Fo)) Q E s := by
  have hT : s.TypeIs (.ref Fo) "filter" := ⟨o, hf, hc⟩
  unfold Builtin.List.listLengthHint
  refine wpAny_bind (wpAny_specialOf hT b_filter_len ?_)
  dsimp only
  refine wpAny_ite_split (fun hab => absurd hab (show ¬ (false = true) from Bool.false_ne_true)) (fun _ => ?_)
  refine wpAny_ite_split (fun hab => absurd hab (by decide)) (fun _ => ?_)
  refine wpAny_bind (wpAny_specialOf hT b_filter_hint ?_)
  exact wpAny_pure h

theorem extend_filter {R : Result → Shared → Prop} {Fo I l mw S : Addr} {items : Array Value} {Sf : Str → Bool} {n : Nat} (hh : A.handled = none) (hs : ∀ (j : Nat) v, items[j]? = some v → ∃ x t, v = .str x t)
    (hf : FSt prog w Fo I l mw S items Sf n 0 s.heap) (hsz : items.size ≤ 2 ^ 20) (D : Addr) (res : Value) (c₀ : Nat) (hD : s.heap.get? D = some { cls := .type "list", data := .seq #[] c₀ }) (hDl : D ≠ l)
    (hR : ∀ h' tk c', (∀ b o, b ≠ D → b ≠ I → s.heap.get? b = some o → h'.get? b = some o) → h'.get? D = some { cls := .type "list", dict := none, data := .seq (items.toList.filter (keepS Sf)).toArray c', slots := #[] } →
      R (.ok (.ret res)) { s with heap := h', toks := tk }) :
    wpAny (model prog w) A.in1 (Builtin.List.listExtendWith (.ref D) (.ref Fo) res)
      (fun fin s' => match fin with | .done f => R (.ok f) s' | .again c' => c'.quiet = true ∧ codeAny (model prog w) A c' R s') (fun e s' => R (.error e) s') s := by
  have hDF : D ≠ Fo := fun e => by have := hf.fo; rw [← e, hD] at this; simp at this
  have hDm : D ≠ mw := fun e => by have := hf.bm; rw [← e, hD] at this; simp at this
  have hDS : D ≠ S := fun e => by
    obtain ⟨o, es, ep, t, ho, hex, hd, _⟩ := hf.st
    rw [← e, hD] at ho; cases ho; simp at hd
  have hDI : D ≠ I := fun e => by
    obtain ⟨o, ho, _, hd⟩ := hf.it
    rw [← e, hD] at ho; cases ho; simp at hd
  have hDf : D ∉ [Fo, I, l, mw, S] := by simp [hDF, hDI, hDl, hDm, hDS]
  have hk : ((items.toList.filter (keepS Sf)).length) ≤ sizeLine := by
    have := List.length_filter_le (keepS Sf) items.toList
    have e : items.toList.length = items.size := by simp
    rw [sizeLine_eq]; omega
  have W := (filter_walks (prog := prog) (w := w) (A := A.in1) (Fo := Fo) (I := I) (l := l) (mw := mw) (S := S) (items := items) (Sf := Sf) (n := n) hh hs).toS
  have key : ∀ (h : Heap) (c₁ tk : Nat), FSt prog w Fo I l mw S items Sf n 0 h → (∀ b o, b ≠ D → s.heap.get? b = some o → h.get? b = some o) →
      h.get? D = some { cls := .type "list", data := .seq #[] c₁ } → codeAny (model prog w) A (.builtin "list.extend.loop" ⟨[.ref D, .ref Fo, res], []⟩) R { s with heap := h, toks := tk } := by
    intro h c₁ tk hf' hk' hD₁
    refine codeAny_extend_loopS W hk D hDf res _ 0 _ #[] c₁ rfl (Nat.zero_le _) ⟨0, Nat.zero_le _, hf', by simp⟩ hD₁ (ItemsOf.nil _) fun s' acc' c' hm hD' hacc => ?_
    rw [Moved.eq_with hm]
    have hacc' : acc' = (items.toList.filter (keepS Sf)).toArray := by
      apply Array.ext'
      rw [List.toList_toArray]
      apply List.ext_getElem?
      intro i
      rw [Array.getElem?_toList]
      cases hi : acc'[i]? with
      | none =>
        have h1 : acc'.size ≤ i := by simpa using hi
        rw [hacc.1] at h1
        exact (List.getElem?_eq_none h1).symm
      | some v => exact (hacc.2 i v hi).symm
    refine hR s'.heap s'.toks c' (fun b o hb hbI e => hm.heap b o (by simp [hb, hbI]) (hk' b o hb e)) (hacc' ▸ hD')
  unfold Builtin.List.listExtendWith
  refine wpAny_bind (wpAny_typeOf (T := "filter") ⟨_, hf.fo, rfl⟩ ?_)
  have h1 : Builtin.List.listSameRef (.ref D) (.ref Fo) = false := by simp [Builtin.List.listSameRef, hDF]
  have h2 : (Value.type "filter" == Value.type "list") = false := by decide
  have h3 : (Value.type "filter" == Value.type "tuple") = false := by decide
  simp only [h1, h2, h3, Bool.or_false, Bool.false_eq_true, if_false]
  have W1 := filter_walks (prog := prog) (w := w) (A := A.in1) (Fo := Fo) (I := I) (l := l) (mw := mw) (S := S) (items := items) (Sf := Sf) (n := n) hh hs
  refine wpAny_bind (W1.self 0 _ _ _ ⟨0, Nat.zero_le _, hf, by simp⟩ ?_)
  refine wpAny_bind (wpAny_holding (hint_filter hf.fo rfl ?_))
  refine wpAny_ite_split (fun _ => ?_) (fun hab => absurd rfl hab)
  refine wpAny_bind (wpAny_rule ?_)
  refine wpAny_bind ?_
  show wpAny _ _ (updateSeq D (·.push .none) >>= fun _ => updateSeq D (·.pop)) _ _ _
  refine wpAny_bind (wpAny_updateSeq hD rfl ?_)
  have hD₂ := Heap.get?_update_self (Obj.mapSeq (·.push Value.none)) hD rfl
  refine wpAny_updateSeq (hz := by seq_fits) hD₂ rfl ?_
  have hD₃ := Heap.get?_update_self (Obj.mapSeq (·.pop)) hD₂ rfl
  refine wpAny_pure ⟨plainId_quiet PySem.F.plain_extend_loop _, key _ _ _ (hf.keep fun b o e hm => ?_) (fun b o hb e => ?_) hD₃⟩
  · have hb : b ≠ D := by rintro rfl; exact absurd hm (by simp [hDF, hDI, hDl, hDm, hDS])
    exact (Heap.get?_update_other _ _ (Ne.symm hb)).trans ((Heap.get?_update_other _ _ (Ne.symm hb)).trans e)
  · exact (Heap.get?_update_other _ _ (Ne.symm hb)).trans ((Heap.get?_update_other _ _ (Ne.symm hb)).trans e)

theorem init_filter {R : Result → Shared → Prop} {Fo I l mw S : Addr} {items : Array Value} {Sf : Str → Bool} {n : Nat} (hh : A.handled = none) (hs : ∀ (j : Nat) v, items[j]? = some v → ∃ x t, v = .str x t)
    (hf : FSt prog w Fo I l mw S items Sf n 0 s.heap) (hsz : items.size ≤ 2 ^ 20) (D : Addr) (hD : s.heap.get? D = some { cls := .type "list", data := .seq #[] }) (hDl : D ≠ l)
    (hR : ∀ h' tk c', (∀ b o, b ≠ D → b ≠ I → s.heap.get? b = some o → h'.get? b = some o) → h'.get? D = some { cls := .type "list", dict := none, data := .seq (items.toList.filter (keepS Sf)).toArray c', slots := #[] } →
      R (.ok (.ret .none)) { s with heap := h', toks := tk }) :
    wpAny (model prog w) A.in1 (Builtin.«list.__init__» ⟨[.ref D, .ref Fo], []⟩)
      (fun fin s' => match fin with | .done f => R (.ok f) s' | .again c' => c'.quiet = true ∧ codeAny (model prog w) A c' R s') (fun e s' => R (.error e) s') s := by
  have hDF : D ≠ Fo := fun e => by have := hf.fo; rw [← e, hD] at this; simp at this
  have hDm : D ≠ mw := fun e => by have := hf.bm; rw [← e, hD] at this; simp at this
  have hDS : D ≠ S := fun e => by
    obtain ⟨o, es, ep, t, ho, hex, hd, _⟩ := hf.st
    rw [← e, hD] at ho; cases ho; simp at hd
  have hDI : D ≠ I := fun e => by
    obtain ⟨o, ho, _, hd⟩ := hf.it
    rw [← e, hD] at ho; cases ho; simp at hd
  show wpAny _ _ (do let old ← Builtin.List.listItems (.ref D); Builtin.List.listUpdate (.ref D) (fun _ => #[]); letGo old.toList.reverse; Builtin.List.listExtendWith (.ref D) (.ref Fo) .none) _ _ s
  refine wpAny_bind ?_
  unfold Builtin.List.listItems
  refine wpAny_bind (wpAny_seqItems hD rfl (wpAny_pure ?_))
  show wpAny _ _ (updateSeq D (fun _ => #[]) >>= fun _ => letGo (#[] : Array Value).toList.reverse >>= fun _ => Builtin.List.listExtendWith (.ref D) (.ref Fo) .none) _ _ s
  refine wpAny_bind (wpAny_updateSeq hD rfl ?_)
  have hD₂ := Heap.get?_update_self (Obj.mapSeq (fun _ => (#[] : Array Value))) hD rfl
  have oth : ∀ b o, b ≠ D → s.heap.get? b = some o → (s.heap.update D (Obj.mapSeq (fun _ => (#[] : Array Value)))).get? b = some o :=
    fun b o hb e => (Heap.get?_update_other _ _ (Ne.symm hb)).trans e
  refine wpAny_bind (wpAny_letGo ?_)
  refine extend_filter hh hs (hf.keep fun b o e hm => oth b o ?_ e) hsz D .none _ hD₂ hDl fun h' tk c' hk hD' => ?_
  · rintro rfl; exact absurd hm (by simp [hDF, hDI, hDl, hDm, hDS])
  · exact hR h' tk c' (fun b o hb hbI e => hk b o hb hbI (oth b o hb e)) hD'

theorem call_list_filter {Q : Value → Shared → Prop} {Fo I l mw S : Addr} {items : Array Value} {Sf : Str → Bool} {n : Nat} (hh : A.handled = none) (hs : ∀ (j : Nat) v, items[j]? = some v → ∃ x t, v = .str x t)
    (hf : FSt prog w Fo I l mw S items Sf n 0 s.heap) (hsz : items.size ≤ 2 ^ 20)
    (hQ : ∀ h' tk c', (∀ b o, b ≠ I → s.heap.get? b = some o → h'.get? b = some o) →
      h'.get? s.heap.objs.size = some { cls := .type "list", dict := none, data := .seq (items.toList.filter (keepS Sf)).toArray c', slots := #[] } → Q (.ref s.heap.objs.size) { s with heap := h', toks := tk }) :
    wpAny (model prog w) A (call (.type "list") [.ref Fo]) Q E s := by
  refine callType_codes (Q₁ := fun obj s₁ => obj = .ref s.heap.objs.size ∧ s₁ = { s with heap := s.heap.push { cls := .type "list", data := .seq #[] } }) PySem.F.called_list (PySem.F.typeCall_list_1 _) PySem.F.entry_list_init
    (code_list_new _ ⟨rfl, rfl⟩) fun obj s₁ h₁ => ?_
  obtain ⟨rfl, rfl⟩ := h₁
  have hD : (s.heap.push { cls := .type "list", data := .seq #[] }).get? s.heap.objs.size = some { cls := .type "list", data := .seq #[] } := Heap.get?_push_size _ rfl
  have hl : s.heap.objs.size ≠ l := by
    obtain ⟨o, ho, _⟩ := hf.ls
    exact Nat.ne_of_gt (Heap.lt_size ho)
  refine ⟨⟨_, hD, rfl⟩, PySem.F.args_list_init_2 _ _, init_filter (A := A.in1) hh hs (hf.keep fun b o e _ => Heap.get?_push_of_some _ e) hsz _ hD hl fun h' tk c' hk hD' => ?_⟩
  exact ⟨rfl, hQ h' tk c' (fun b o hb e => hk b o (Nat.ne_of_lt (Heap.lt_size e)) hb (Heap.get?_push_of_some _ e)) hD'⟩
end
end Mine
end
section
open PySem PySem.W PySem.Calls PyProof.Rows
set_option maxRecDepth 100000
namespace Mine
section
variable {prog : Program} {w : World} {A : Around} {E : Value → Shared → Prop} {s : Shared}

/-- what a set of the texts taken so far holds -/
def Seen (prog : Program) (w : World) (xs : List Str) (i : Nat) (S : Addr) (h : Heap) : Prop := ∃ n, n ≤ i ∧ h.SetOf (strKind prog w) S (fun k => decide (k ∈ xs.take i)) n

theorem code_set_update {R : Result → Shared → Prop} {I l S : Addr} {items : Array Value} {xs : List Str} (W : Walks prog w A.in1 I [I, l] [I] items.size (fun i v => items[i]? = some v) (fun i h => h.IsListIter I l i ∧ h.IsList l items))
    (hSI : S ≠ I) (hSl : S ≠ l) (hx : ∀ (i : Nat) v, items[i]? = some v → ∃ x t, v = .str x t ∧ xs[i]? = some x) (hb : items.size + 1 < scanBound) :
    ∀ (k i : Nat) (s : Shared), items.size - i = k → i ≤ items.size → (s.heap.IsListIter I l i ∧ s.heap.IsList l items) → Seen prog w xs i S s.heap →
      (∀ h' tk, Seen prog w xs items.size S h' → (∀ b o, b ≠ S → b ≠ I → s.heap.get? b = some o → h'.get? b = some o) → R (.ok (.ret .none)) { s with heap := h', toks := tk }) →
      codeAny (model prog w) A (.builtin "set.update.loop" ⟨[.ref S, .ref I], []⟩) R s := by
  intro k
  induction k with
  | zero =>
    intro i s hk hi hst hS hR
    have hin : i = items.size := by omega
    subst hin
    refine codeAny_builtin PyProof.Rows.F.entry_set_update_loop ?_
    rw [Around.under_plainId PyProof.Rows.F.plain_set_update_loop _]
    show wpAny _ A.in1 (pyNext (.ref I) >>= _) _ _ s
    refine wpAny_bind (W.done s _ _ hst fun h' tk hk' => ?_)
    show wpAny _ A.in1 (ret Value.none) _ _ _
    obtain ⟨n, hn, hS⟩ := hS
    exact wpAny_pure (hR h' tk ⟨n, hn, SetOf.keep hS fun o e => hk' S o (by simpa using hSI) e⟩ fun b o _ hb e => hk' b o (by simpa using hb) e)
  | succ k ih =>
    intro i s hk hi hst hS hR
    have hlt : i < items.size := by omega
    refine codeAny_builtin PyProof.Rows.F.entry_set_update_loop ?_
    rw [Around.under_plainId PyProof.Rows.F.plain_set_update_loop _]
    show wpAny _ A.in1 (pyNext (.ref I) >>= _) _ _ s
    refine wpAny_bind (W.item i s _ _ hlt hst fun v h₁ tk₁ hP hst₁ hk₁ => ?_)
    obtain ⟨x, t, rfl, hxi⟩ := hx i v hP
    obtain ⟨n, hn, hS⟩ := hS
    have hS₁ := SetOf.keep hS fun o e => hk₁ S o (by simpa using hSI) e
    show wpAny _ A.in1 (holding [Value.str x t] (setAdd S (.str x t)) >>= _) _ _ _
    refine wpAny_bind (wpAny_holding ?_)
    unfold setAdd
    refine wpAny_holding ?_
    refine wpAny_bind ((strKind prog w).pyHash (k := x) (strKind_is _ _ _ _) ?_)
    refine wpAny_setAddHashed_of (knd := strKind prog w) (s := { s with heap := h₁, toks := tk₁ + 1 }) (strKind_is _ _ _ _) rfl hS₁ (by omega) fun h₂ hs₂ hS₂ => ?_
    have htake : xs.take (i + 1) = xs.take i ++ [x] := by rw [List.take_add_one, hxi]; rfl
    refine wpAny_pure ⟨plainId_quiet PyProof.Rows.F.plain_set_update_loop _, ih (i + 1) _ (by omega) hlt ?_ ⟨_, ?_, PyProof.Rows.SetOf_congr hS₂ (S' := fun k => decide (k ∈ xs.take (i + 1))) (fun k' => ?_) rfl⟩ fun h' tk' hS' hk' => ?_⟩
    · exact ⟨hst₁.1.at fun o e => (hs₂.2 I (Ne.symm hSI)).trans e, hst₁.2.at fun o e => (hs₂.2 l (Ne.symm hSl)).trans e⟩
    · split <;> omega
    · rw [htake]; simp
    · exact hR h' tk' hS' fun b o hb hbI e => hk' b o hb hbI ((hs₂.2 b hb).trans (hk₁ b o (by simpa using hbI) e))

set_option maxHeartbeats 3200000 in
theorem call_set_strs {l : Addr} {items : Array Value} {xs : List Str} {Q : Value → Shared → Prop}
    (hh : A.handled = none) (hl : s.heap.IsList l items) (hx : ∀ (i : Nat) v, items[i]? = some v → ∃ x t, v = .str x t ∧ xs[i]? = some x) (hxl : xs.length = items.size) (hb : items.size + 1 < scanBound)
    (h : ∀ (h' : Heap) (tk n : Nat), h'.SetOf (strKind prog w) s.heap.objs.size (fun k => decide (k ∈ xs)) n → Ext s.heap h' → Q (.ref s.heap.objs.size) { s with heap := h', toks := tk }) :
    wpAny (model prog w) A (call (.type "set") [.ref l]) Q E s := by
  obtain ⟨c, tl, hmro⟩ := PySem.F.called_set.mro
  have hmade := PySem.F.called_set.made
  have hsub := PySem.F.called_set.sub
  refine wpAny_call (codeAny_of_tree ?_)
  show wpAny _ _ (callAny (.type "set") _) _ _ _
  refine wpAny_pure ⟨Code.quiet_builtin _ (by decide +kernel), codeAny_builtin PySem.F.entry_type_call ?_⟩
  rw [Around.under_plain (weight_type_call_type "set" [.ref l] []) rfl]
  have h1 := PySem.F.called_set.notType
  have h2 := PySem.F.called_set.canCreate
  have hct := PySem.F.typeCall_set_1 (.ref l)
  repeat (any_goals (first | assumption | wp_step))
  refine codeAny_mono (code_set_new_1 (.ref l) (E := E) (Q₁ := fun obj s₁ => ∃ led : Bool, obj = .ref s.heap.objs.size ∧ s₁ = { s with heap := s.heap.push { cls := .type "set", dict := none, data := .set #[] 0 (.fresh 0 0 led) } }) fun led => ⟨led, rfl, rfl⟩) fun r s₁ hr => ?_
  cases r with
  | error e => exact hr
  | ok fl =>
    cases fl with
    | ret obj =>
      obtain ⟨led, rfl, rfl⟩ := hr
      have hS : (s.heap.push { cls := .type "set", dict := none, data := .set #[] 0 (.fresh 0 0 led) }).get? s.heap.objs.size = some { cls := .type "set", dict := none, data := .set #[] 0 (.fresh 0 0 led) } := Heap.get?_push_size _ rfl
      have hT : Shared.TypeIs { s with heap := s.heap.push { cls := .type "set", dict := none, data := .set #[] 0 (.fresh 0 0 led) } } (.ref s.heap.objs.size) "set" := ⟨_, hS, rfl⟩
      have hli := PySem.F.called_set.init.lookup
      have hbi := PySem.F.called_set.init.bind (.ref s.heap.objs.size)
      repeat (any_goals (first | assumption | wp_step))
      refine codeAny_mono (codeAny_call_builtin (R := wants (fun r s₂ => r = .none ∧ ∃ h' tk, s₂ = { s with heap := h', toks := tk } ∧ Seen prog w xs items.size s.heap.objs.size h' ∧ Ext s.heap h') E) PySem.F.called_set.init.plain PySem.F.entry_set_init (check_set_init_1 hT ?_)) fun r₂ s₂ hr₂ => ?_
      · obtain ⟨ol, hol, hcl, nl, hdl⟩ := hl
        obtain ⟨ocls, odict, odata, oslots⟩ := ol
        simp only at hcl hdl
        subst hcl; subst hdl
        have hol' : (s.heap.push { cls := .type "set", dict := none, data := .set #[] 0 (.fresh 0 0 led) }).get? l = some { cls := .type "list", dict := odict, data := .seq items nl, slots := oslots } := Heap.get?_push_of_some _ hol
        have hsls := PySem.F.sub_list_set
        have hslf := PySem.F.sub_list_frozenset
        have hne : (Value.type "list" == Value.type "dict") = false := by decide
        have hl1 : (s.heap.push { cls := .type "set", dict := none, data := .set #[] 0 (.fresh 0 0 led) }).IsList l items := ⟨_, hol', rfl, nl, rfl⟩
        unfold Builtin.«set.__init__» noKeywords Builtin.Frozenset.updateFrom
        generalize hPI : pyIter = PI
        wp_walk
        subst hPI
        refine wpAny_pyIter_list hl1 ?_
        refine wpAny_bind (wpAny_runValue ?_)
        have hlS : l < s.heap.objs.size := Heap.lt_size hol
        have hh3 : A.in1.in1.in1.handled = none := by simp [hh]
        have hneI : l ≠ (s.heap.push { cls := .type "set", dict := none, data := .set #[] 0 (.fresh 0 0 led) }).objs.size := by
          rw [Heap.size_push]; exact Nat.ne_of_lt (Nat.lt_succ_of_lt hlS)
        have hSI : s.heap.objs.size ≠ (s.heap.push { cls := .type "set", dict := none, data := .set #[] 0 (.fresh 0 0 led) }).objs.size := by
          rw [Heap.size_push]; exact Nat.ne_of_lt (Nat.lt_succ_self _)
        refine code_set_update (xs := xs) (Walks.list hh3 _ l hneI items) hSI (Nat.ne_of_gt hlS) hx hb (items.size - 0) 0 _ (by omega) (Nat.zero_le _)
          ⟨⟨_, Heap.get?_push_size _ rfl, rfl, rfl⟩, (hl1.push _)⟩ ?hS0 ?hR
        case hS0 =>
          have hget : ((s.heap.push { cls := .type "set", dict := none, data := .set #[] 0 (.fresh 0 0 led) }).push { cls := .type "list_iterator", data := .fields #[.ref l, .int 0 0] }).get? s.heap.objs.size
              = some { cls := .type "set", dict := none, data := .set #[] 0 (.fresh 0 0 led) } := Heap.get?_push_of_some _ hS
          exact ⟨0, Nat.le_refl _, PyProof.Rows.SetOf_congr ((PyProof.Rows.setObjOf_fresh (knd := strKind prog w) led).setOf hget (by unfold scanBound; omega)) (fun _ => by simp) rfl⟩
        case hR =>
          intro h' tk hS' hk'
          show wpAny _ _ _ _ _ _
          refine wpAny_pure ?_
          show wpAny _ _ (ret Value.none) _ _ _
          refine wpAny_pure ⟨rfl, h', tk, rfl, hS', fun b o e => ?_⟩
          have hb : b < s.heap.objs.size := Heap.lt_size e
          exact hk' b o (Nat.ne_of_lt hb) (by rw [Heap.size_push]; exact Nat.ne_of_lt (Nat.lt_succ_of_lt hb)) (Heap.get?_push_of_some _ (Heap.get?_push_of_some _ e))
      · cases r₂ with
        | error e => exact hr₂
        | ok fl₂ =>
          cases fl₂ with
          | ret r =>
            obtain ⟨rfl, h', tk, rfl, ⟨n, _, hS'⟩, hk'⟩ := hr₂
            repeat (any_goals (first | assumption | wp_step))
            rw [← hxl, List.take_length] at hS'
            exact h _ _ n hS' hk'
          | _ => exact hr₂.elim
    | _ => exact hr.elim
end
end Mine
end
section
open PySem PySem.W PySem.Calls PyProof.Rows
set_option maxRecDepth 100000
namespace Mine
theorem listO_is {h : Heap} {l : Addr} {its : Array Value} {n : Nat} (e : h.get? l = some (W.listOf its n)) : h.IsList l its := ⟨_, e, rfl, n, rfl⟩

section
variable {prog : Program} {w : World} {A : Around} {E : Value → Shared → Prop} {s : Shared}
theorem set_K {l : Addr} {vs : List Value} {xs : List Str} {Q : Value → Shared → Prop} (hh : A.handled = none) (hl : s.heap.IsList l vs.toArray) (hx : StrsAre vs xs) (hb : vs.length + 1 < scanBound)
    (h : ∀ (h' : Heap) (tk : Nat) (S : Addr) (n : Nat), Ext s.heap h' → h'.SetOf (PySem.strKind prog w) S (fun k => decide (k ∈ xs)) n → Q (.ref S) { s with heap := h', toks := tk }) :
    wpAny (model prog w) A (call (.type "set") [.ref l]) Q E s :=
  call_set_strs hh hl (by simpa using hx.item) (by simpa using hx.length.symm) (by simpa using hb) fun h' tk n hS hk => h h' tk _ n hk hS

theorem contains_K {S : Addr} {Sf : Str → Bool} {n : Nat} {Q : Value → Shared → Prop} (hS : s.heap.SetOf (PySem.strKind prog w) S Sf n)
    (h : ∀ (h' : Heap) (tk : Nat) (mw : Addr), Ext s.heap h' → h'.get? mw = some (boundC S) → Q (.ref mw) { s with heap := h', toks := tk }) :
    wpAny (model prog w) A (getAttr (.ref S) "__contains__" true) Q E s := by
  obtain ⟨o, es, ep, t, ho, hex, hd, _⟩ := id hS
  obtain ⟨cls, dict, data, slots⟩ := o
  obtain ⟨q1, q2, q3⟩ := hex
  simp only at q1 q2 q3 hd
  subst q1 q2 q3 hd
  exact getAttr_set_contains ho (h _ _ _ (fun b o e => Heap.get?_push_of_some _ e) (Heap.get?_push_size _ rfl))

theorem filter_K {l mw S : Addr} {vs : List Value} {Sf : Str → Bool} {n : Nat} {Q : Value → Shared → Prop} (hl : s.heap.IsList l vs.toArray) (hm : s.heap.get? mw = some (boundC S)) (hS : s.heap.SetOf (PySem.strKind prog w) S Sf n)
    (h : ∀ (h' : Heap) (tk : Nat) (Fo I : Addr), Ext s.heap h' → s.heap.get? I = none → FSt prog w Fo I l mw S vs.toArray Sf n 0 h' → Q (.ref Fo) { s with heap := h', toks := tk }) :
    wpAny (model prog w) A (call (.type "filter") [.ref mw, .ref l]) Q E s := by
  refine call_filter hl ?_
  have e1 : Ext s.heap ((s.heap.push (listItO l 0)).push { cls := .type "filter", data := .fields #[.ref mw, .ref s.heap.objs.size] }) := fun b o e => Heap.get?_push_of_some _ (Heap.get?_push_of_some _ e)
  refine h _ _ _ s.heap.objs.size e1 ?_ ⟨?_, ?_, hl.at fun o e => e1 _ o e, e1 _ _ hm, SetOf.keep hS fun o e => e1 _ o e⟩
  · cases e : s.heap.get? s.heap.objs.size with
    | none => rfl
    | some o => exact absurd (Heap.lt_size e) (Nat.lt_irrefl _)
  · have := Heap.get?_push_size (s.heap.push (listItO l 0)) (o := { cls := .type "filter", data := .fields #[.ref mw, .ref s.heap.objs.size] }) rfl
    rwa [Heap.size_push] at this
  · exact ⟨_, Heap.get?_push_of_some _ (Heap.get?_push_size _ rfl), rfl, rfl⟩

theorem list_filter_K {Fo I l mw S : Addr} {vs : List Value} {xs : List Str} {Sf : Str → Bool} {n : Nat} {Q : Value → Shared → Prop} {hg : Heap} (hh : A.handled = none) (hx : StrsAre vs xs) (hb : vs.length ≤ 2 ^ 20)
    (hf : FSt prog w Fo I l mw S vs.toArray Sf n 0 s.heap) (hg1 : Ext hg s.heap) (hgI : hg.get? I = none)
    (h : ∀ (h' : Heap) (tk : Nat) (D : Addr) (c : Nat), Ext hg h' → h'.get? D = some (W.listOf (vs.filter (keepS Sf)).toArray c) → (∀ b o, hg.get? b = some o → b < D) → hg.get? D = none → Q (.ref D) { s with heap := h', toks := tk }) :
    wpAny (model prog w) A (call (.type "list") [.ref Fo]) Q E s := by
  refine call_list_filter hh (fun j v hv => ?_) hf (by simpa using hb) fun h' tk c' hk hD => ?_
  · obtain ⟨x, t, e, _⟩ := hx.item j v (by simpa using hv)
    exact ⟨x, t, e⟩
  · refine h h' tk _ c' (fun b o e => hk b o (fun q => by rw [q, hgI] at e; cases e) (hg1 b o e)) (by simpa using hD) (fun b o e => Heap.lt_size (hg1 b o e)) ?_
    cases e : hg.get? s.heap.objs.size with
    | none => rfl
    | some o => exact absurd (Heap.lt_size (hg1 _ _ e)) (Nat.lt_irrefl _)
end

section
variable {prog : Program} {w : World} {A : Around} {E : Value → Shared → Prop} {s : Shared} {h₀ : Heap} {L : Addr} {m : Str → Option Value} {news : List (Addr × Obj)}
theorem add_K {l b : Addr} {vs ws : List Value} {Q : Value → Shared → Prop} (F : Fr h₀ L s.heap m) (N : News h₀ L s.heap news) (hl : s.heap.IsList l vs.toArray) (hb : s.heap.IsList b ws.toArray) (hsz : vs.length + ws.length ≤ 2 ^ 21)
    (h : ∀ (D : Addr) h', Fr h₀ L h' m → News h₀ L h' ((D, W.listOf (vs ++ ws).toArray 0) :: news) → (∀ p ∈ news, p.1 < D) → Q (.ref D) { s with heap := h' }) :
    wpAny (model prog w) A (binaryOp .Add (.ref l) (.ref b)) Q E s :=
  add_lists F N hl hb (fun h' F' N' => h _ h' F' N' fun p hp => Heap.lt_size (N p hp).1) (hsz := by rw [sizeLine_eq]; omega)
end

/-- an object of the heap laid on the ledger -/
theorem news_add {h₀ hg h : Heap} {L D : Addr} {m : Str → Option Value} {news : List (Addr × Obj)} {o : Obj} (F : Fr h₀ L hg m) (N : News h₀ L h news) (e : h.get? D = some o) (hD : hg.get? D = none) : News h₀ L h ((D, o) :: news) := by
  intro p hp
  rcases List.mem_cons.mp hp with rfl | hp
  · refine ⟨e, fun q => ?_, ?_⟩
    · obtain ⟨oL, _, _, hL, _⟩ := F.ns
      rw [show D = L from q, hL] at hD; cases hD
    · cases q : h₀.get? D with
      | none => rfl
      | some o' => rw [F.keep _ _ q] at hD; cases hD
  · exact N p hp
end Mine
end
section
open PySem PySem.W PySem.Calls PyProof.Rows
set_option maxRecDepth 100000
namespace Mine
section
variable {prog : Program} {w : World} {A : Around} {E : Value → Shared → Prop} {s : Shared} {h₀ : Heap} {L : Addr} {m : Str → Option Value} {news : List (Addr × Obj)}
theorem item_any {value slice : PySem.Expr} {l : Addr} {vs : List Value} {k : Int} {u : Tok} {Q : Value → Shared → Prop} (hl : s.heap.IsList l vs.toArray) (h0 : 0 ≤ k) (h1 : k < (vs.length : Int)) (hfit : vs.length < 2 ^ 62)
    (h : ∀ v, vs[k.toNat]? = some v → Q v s)
    (hs : subscripted slice false (.ref l) (.int k u) = operate [.ref l, .int k u] (getItem (.ref l) (.int k u)) := by with_unfolding_all rfl) :
    wpAny (model prog w) A (subscriptTail value slice (.ref l) (.int k u)) Q E s := by
  have hj : k.toNat < vs.length := by omega
  have e : vs[k.toNat]? = some vs[k.toNat] := List.getElem?_eq_getElem hj
  exact tail_any hl.typeIs slot_list_getitem.lookup (wpAny_getItem_list hl h0 (by omega) (by simpa using e) (h _ e)) hs
theorem item_ints {value slice : PySem.Expr} {l : Addr} {vs : List Value} {ns : List Int} {k : Int} {u : Tok} {Q : Value → Shared → Prop} (hl : s.heap.IsList l vs.toArray) (hx : IntsAre vs ns) (h0 : 0 ≤ k) (h1 : k < (ns.length : Int)) (hfit : ns.length < 2 ^ 62)
    (h : ∀ x t, ns[k.toNat]? = some x → Q (.int x t) s)
    (hs : subscripted slice false (.ref l) (.int k u) = operate [.ref l, .int k u] (getItem (.ref l) (.int k u)) := by with_unfolding_all rfl) :
    wpAny (model prog w) A (subscriptTail value slice (.ref l) (.int k u)) Q E s := by
  have hlen := hx.length
  refine item_any hl h0 (by omega) (by omega) (fun v hv => ?_) hs
  obtain ⟨x, t, rfl, e⟩ := hx.at _ _ hv
  exact h x t e
end
end Mine
end
section
open PySem PySem.W PySem.Calls PyProof.Rows
set_option maxRecDepth 100000
namespace Mine
theorem off0 {D : Addr} : ∀ p ∈ ([] : List (Addr × Obj)), p.1 ≠ D := fun _ h => nomatch h
theorem off1 {D : Addr} {q : Addr × Obj} {r : List (Addr × Obj)} (h : q.1 ≠ D) (hr : ∀ p ∈ r, p.1 ≠ D) : ∀ p ∈ q :: r, p.1 ≠ D := fun p hp => by
  rcases List.mem_cons.mp hp with rfl | hp
  · exact h
  · exact hr p hp
section
variable {prog : Program} {w : World} {A : Around} {E : Value → Shared → Prop} {s : Shared} {h₀ : Heap} {L : Addr} {m : Str → Option Value}
theorem extend_K {pre post : List (Addr × Obj)} {D b : Addr} {vs ws : List Value} {n n2 : Nat} {Q : Value → Shared → Prop} (F : Fr h₀ L s.heap m) (N : News h₀ L s.heap (pre ++ (D, W.listOf vs.toArray n) :: post)) (a : ∀ p ∈ pre, p.1 ≠ D) (c : ∀ p ∈ post, p.1 ≠ D)
    (hb : s.heap.get? b = some (W.listOf ws.toArray n2)) (hsz : vs.length + ws.length ≤ 2 ^ 21)
    (h : ∀ n' h', Fr h₀ L h' m → News h₀ L h' (pre ++ (D, W.listOf (vs ++ ws).toArray n') :: post) → Q .none { s with heap := h' }) : wpAny (model prog w) A (call (.builtin "list.extend") [.ref D, .ref b]) Q E s := by
  have z := N (D, W.listOf vs.toArray n) (List.mem_append.mpr (.inr (.head _)))
  have q := PySem.IsL.update z.1 (fun x => x ++ ws.toArray)
  have ea : vs.toArray ++ ws.toArray = (vs ++ ws).toArray := by simp
  simp only [ea] at q
  have z2 := h _ _ (F.change (Heap.SameBut.update ..) z.2.1 z.2.2) (news_set N a c (Heap.SameBut.update ..) q)
  refine call_meets PySem.F.slot_list_extend ⟨_, z.1, rfl⟩ PySem.F.entry_list_extend (PySem.F.args_list_extend_2 _ _) (PySem.AutoSeq1.list_extend_list_list_0 D vs.toArray n b ws.toArray n2 ?_ ?_ ?_) ⟨z.1, hb, z2⟩
  · intro q
    rw [Bool.and_eq_true] at q
    have := q.2
    unfold Builtin.List.listTooLong at this
    rw [sizeLine_eq, decide_eq_true_eq, List.size_toArray, List.size_toArray] at this
    omega
  · rw [sizeLine_eq, List.size_toArray]; omega
  · rw [sizeLine_eq, List.size_toArray, List.size_toArray]; omega
theorem item_last {value slice : PySem.Expr} {l : Addr} {vs : List Value} {ns : List Int} {k : Int} {u : Tok} {Q : Value → Shared → Prop} (hl : s.heap.IsList l vs.toArray) (hx : IntsAre vs ns) (hk : k = -1) (h0 : 0 < ns.length)
    (h : ∀ t, Q (.int (ns.getD (ns.length - 1) 0) t) s)
    (hs : subscripted slice false (.ref l) (.int k u) = operate [.ref l, .int k u] (getItem (.ref l) (.int k u)) := by with_unfolding_all rfl) :
    wpAny (model prog w) A (subscriptTail value slice (.ref l) (.int k u)) Q E s := by
  subst hk
  have hlen := hx.length
  obtain ⟨t, hv⟩ := hx.get (ns.length - 1) _ (show ns[ns.length - 1]? = some (ns.getD (ns.length - 1) 0) by
    rw [List.getD_eq_getElem?_getD, List.getElem?_eq_getElem (by omega)]; rfl)
  refine tail_any hl.typeIs slot_list_getitem.lookup (wpAny_getItem_list_neg hl (by decide) (by rw [List.size_toArray]; omega) (by decide) ?_ (h t)) hs
  rw [List.size_toArray, List.getElem?_toArray, ← hv]
  congr 1
  omega
end
end Mine
end
section
open PySem PySem.W PySem.Calls PyProof.Rows
set_option maxRecDepth 100000
namespace Mine
abbrev lstO (ys : List Value) : Obj := LCg.lst ys

/-- the end of a comprehension's turn -/
structure CTurn (h₀ : Heap) (L : Addr) (m : Str → Option Value) (J : List (Addr × Obj) → Prop) (own : List (Addr × Obj)) (ad : List Addr) (s s' : Shared) : Prop where
  out : ∃ h' tk nx news', s' = { s with heap := h', toks := tk } ∧ Fr h₀ L h' m ∧ News h₀ L h' news' ∧ (∀ p ∈ nx, p ∈ news') ∧ (∀ p ∈ own, p ∈ news') ∧ (∀ p ∈ nx, p.1 ∉ ad) ∧ J nx

theorem CTurn.intro {h₀ : Heap} {L : Addr} {m : Str → Option Value} {J : List (Addr × Obj) → Prop} {own : List (Addr × Obj)} {ad : List Addr} {s : Shared} {h' : Heap} {tk : Nat} (nx news' : List (Addr × Obj))
    (F : Fr h₀ L h' m) (N : News h₀ L h' news') (h1 : ∀ p ∈ nx, p ∈ news') (h2 : ∀ p ∈ own, p ∈ news') (h3 : ∀ p ∈ nx, p.1 ∉ ad) (hj : J nx) : CTurn h₀ L m J own ad s { s with heap := h', toks := tk } :=
  ⟨h', tk, nx, news', rfl, F, N, h1, h2, h3, hj⟩
theorem CTurn.n0 {h₀ : Heap} {L : Addr} {m : Str → Option Value} {J : List (Addr × Obj) → Prop} {own : List (Addr × Obj)} {ad : List Addr} {s : Shared} {h' : Heap} {tk : Nat} {news' : List (Addr × Obj)}
    (F : Fr h₀ L h' m) (N : News h₀ L h' news') (h2 : ∀ p ∈ own, p ∈ news') (hj : J []) : CTurn h₀ L m J own ad s { s with heap := h', toks := tk } :=
  .intro [] news' F N (fun _ h => (nomatch h)) h2 (fun _ h => (nomatch h)) hj

/-- what the tests of a clause bring -/
def TestsP (M : Model) (A : Around) (ifs : List Expr) (cenv : Env) (T : Bool → Shared → Prop) (s : Shared) : Prop :=
  match ifs with
  | [] => T true s
  | [c] => wpAny M A (isTrue c cenv (eval c cenv)) T F0 s
  | _ => False

theorem CTurn.rebase {h₀ : Heap} {L : Addr} {m : Str → Option Value} {J : List (Addr × Obj) → Prop} {own : List (Addr × Obj)} {ad : List Addr} {s s' : Shared} {h : Heap} {tk : Nat} (x : CTurn h₀ L m J own ad s s') : CTurn h₀ L m J own ad { s with heap := h, toks := tk } s' := by
  obtain ⟨h', tk', nx, news', rfl, r⟩ := x
  exact ⟨h', tk', nx, news', rfl, r⟩
theorem TestsP.mono {M : Model} {A : Around} {ifs : List Expr} {cenv : Env} {T T' : Bool → Shared → Prop} {s : Shared} (h : TestsP M A ifs cenv T s) (k : ∀ b s', T b s' → T' b s') : TestsP M A ifs cenv T' s := by
  match ifs, h with
  | [], h => exact k _ _ h
  | [c], h => exact wpAny_mono h k fun _ _ e => e
theorem tests_rebase {M : Model} {A : Around} {ifs : List Expr} {cenv : Env} {elt : Expr} {h₀ : Heap} {L : Addr} {m : Str → Option Value} {J₁ : Value → List (Addr × Obj) → Prop} {J₂ : List (Addr × Obj) → Prop} {own : List (Addr × Obj)} {ad : List Addr} {s s₁ : Shared} {h : Heap} {tk : Nat}
    (x : TestsP M A ifs cenv (fun b s₂ => if b = true then wpAny M A (eval elt cenv) (fun y s₃ => CTurn h₀ L m (J₁ y) own ad s s₃) F0 s₂ else CTurn h₀ L m J₂ own ad s s₂) s₁) :
    TestsP M A ifs cenv (fun b s₂ => if b = true then wpAny M A (eval elt cenv) (fun y s₃ => CTurn h₀ L m (J₁ y) own ad { s with heap := h, toks := tk } s₃) F0 s₂ else CTurn h₀ L m J₂ own ad { s with heap := h, toks := tk } s₂) s₁ :=
  x.mono fun b s' hb => by
    cases b with
    | false => simp only [Bool.false_eq_true, if_false] at hb ⊢; exact hb.rebase
    | true => simp only [if_true] at hb ⊢; exact wpAny_mono hb (fun _ _ z => z.rebase) fun _ _ e => e

theorem TestsP.run {prog : Program} {w : World} {A : Around} {ifs : List Expr} {cenv : Env} {T : Bool → Shared → Prop} {E : Value → Shared → Prop} {s : Shared} (h : TestsP (model prog w) A ifs cenv T s) :
    wpAny (model prog w) A (forIn ifs true fun c r => if r = true then do let ok ← isTrue c cenv (eval c cenv); pure (ForInStep.yield ok) else pure (ForInStep.yield r)) T E s := by
  match ifs, h with
  | [], h => exact wpAny_tests_nil h
  | [c], h => exact wpAny_tests_one (wpAny_mono h (fun _ _ x => x) fun _ _ e => e.elim)

/-- what stands at the block's own places when its variable holds a value -/
structure OwnOf (M : Model) (A : Around) (cenv : Env) (target : Expr) (ca : List Addr) (Own : List (Addr × Obj) → Option Value → Prop) : Prop where
  at_ : ∀ own v, Own own v → own.map (·.1) = ca
  asg : ∀ (s : Shared) v u own (E : Value → Shared → Prop) (Q : Unit → Shared → Prop), Own own u → (∀ p ∈ own, s.heap.get? p.1 = some p.2) →
    (∀ h' tk own', Own own' (some v) → (∀ p ∈ own', h'.get? p.1 = some p.2) → (∀ b o, b ∉ ca → s.heap.get? b = some o → h'.get? b = some o) → Q () { s with heap := h', toks := tk }) → wpAny M A (assign target cenv v) Q E s

theorem news_off {h₀ h h' : Heap} {L : Addr} {news : List (Addr × Obj)} {ad : List Addr} (N : News h₀ L h news) (hk : ∀ b o, b ∉ ad → h.get? b = some o → h'.get? b = some o) (off : ∀ p ∈ news, p.1 ∉ ad) : News h₀ L h' news :=
  fun p hp => ⟨hk _ _ (off p hp) (N p hp).1, (N p hp).2⟩
theorem fr_off {h₀ h h' : Heap} {L : Addr} {m : Str → Option Value} {ad : List Addr} (F : Fr h₀ L h m) (hk : ∀ b o, b ∉ ad → h.get? b = some o → h'.get? b = some o) (hL : L ∉ ad) (h0 : ∀ a ∈ ad, h₀.get? a = none) : Fr h₀ L h' m :=
  ⟨F.ns.at' fun o e => hk L o hL e, fun b o e => hk b o (fun hm => by rw [h0 b hm] at e; cases e) (F.keep b o e), F.above⟩

section
variable {prog : Program} {w : World} {A : Around} {s : Shared} {h₀ : Heap} {L : Addr} {m : Str → Option Value}

theorem loop_J {elt iter target : Expr} {ifs : List Expr} {scope : Scope} {pos : Pos} {cenv : Env} {I D : Addr} {ca fp : List Addr} {Own : List (Addr × Obj) → Option Value → Prop} {n : Nat} {P : Nat → Value → Prop} {St : Nat → Heap → Prop} {R : Result → Shared → Prop} {own nx old : List (Addr × Obj)} {u : Option Value}
    (W : Walks prog w A I fp [I] n P St) (J : Nat → List Value → List (Addr × Obj) → Prop) (O : OwnOf (model prog w) A cenv target ca Own) (hsz : n ≤ sizeLine)
    (hIo : ∀ i h, St i h → ∃ o, h.get? I = some o)
    (hSt : ∀ i h h' o ys nx, i ≤ n → St i h → h.get? I = some o → h'.get? I = some o → Fr h₀ L h' m → News h₀ L h' (nx ++ old) → J i ys nx → St i h')
    (hca : ∀ a ∈ ca, a ≠ L ∧ h₀.get? a = none ∧ a ≠ I ∧ a ≠ D ∧ a ∉ fp) (hI : I ≠ L ∧ h₀.get? I = none ∧ I ≠ D) (hD : D ≠ L ∧ h₀.get? D = none ∧ D ∉ fp)
    (hst : St 0 s.heap) (F : Fr h₀ L s.heap m) (N : News h₀ L s.heap (own ++ (D, lstO []) :: (nx ++ old))) (hO : Own own u) (hoff : ∀ p ∈ nx ++ old, p.1 ∉ I :: D :: ca) (hj : J 0 [] nx)
    (turn : ∀ i v oI own ys nx h tk, i < n → P i v → J i ys nx → Own own (some v) → Fr h₀ L h m → News h₀ L h ((I, oI) :: (own ++ (D, lstO ys) :: (nx ++ old))) → (∀ p ∈ nx ++ old, p.1 ∉ I :: D :: ca) →
      TestsP (model prog w) A ifs cenv (fun b s₂ => if b = true then wpAny (model prog w) A (eval elt cenv) (fun y s₃ => CTurn h₀ L m (J (i + 1) (ys ++ [y])) ((I, oI) :: (own ++ (D, lstO ys) :: old)) (I :: D :: ca) s s₃) F0 s₂
        else CTurn h₀ L m (J (i + 1) ys) ((I, oI) :: (own ++ (D, lstO ys) :: old)) (I :: D :: ca) s s₂) { s with heap := h, toks := tk })
    (done : ∀ h tk ys own nx u, J n ys nx → Own own u → Fr h₀ L h m → News h₀ L h (own ++ (D, lstO ys) :: (nx ++ old)) → (∀ p ∈ nx ++ old, p.1 ∉ I :: D :: ca) → R (.ok .next) { s with heap := h, toks := tk })
    (ht : ∀ v, letOwnedTupleGo target (.ref I) v = pure () := by intro _; rfl) :
    codeAny (model prog w) A (.compLoop (.ListComp elt [⟨target, iter, ifs, 0⟩] scope pos) 0 (.ref I) (.ref D) cenv) R s := by
  refine codeAny_compLoop_tests (ht := ht)
    (fun k s' => ∃ h tk i ys own nx u, s' = { s with heap := h, toks := tk } ∧ i ≤ n ∧ k = n + 1 - i ∧ ys.length ≤ i ∧ St i h ∧ Fr h₀ L h m ∧ Own own u ∧ News h₀ L h (own ++ (D, lstO ys) :: (nx ++ old)) ∧ (∀ p ∈ nx ++ old, p.1 ∉ I :: D :: ca) ∧ J i ys nx)
    ?_ (n + 1) ⟨s.heap, s.toks, 0, [], own, nx, u, rfl, Nat.zero_le _, rfl, Nat.le_refl _, hst, F, hO, N, hoff, hj⟩
  rintro k s' ⟨h, tk, i, ys, own, nx, u, rfl, hi, rfl, hyl, hst, F, hO, N, hoff, hj⟩
  have ownI : ∀ {own : List (Addr × Obj)} {u}, Own own u → ∀ p ∈ own, p.1 ∈ ca := fun hO p hp => O.at_ _ _ hO ▸ List.mem_map_of_mem hp
  have offI : ∀ p ∈ own ++ (D, lstO ys) :: (nx ++ old), p.1 ∉ [I] := by
    intro p hp e
    rw [List.mem_singleton] at e
    rcases List.mem_append.mp hp with hp | hp
    · exact (hca _ (ownI hO p hp)).2.2.1 e
    · rcases List.mem_cons.mp hp with rfl | hp
      · exact hI.2.2 e.symm
      · exact hoff p hp (e ▸ .head _)
  by_cases hlt : i < n
  · refine W.item i _ _ _ hlt hst fun v h₂ tk₂ hPv hst₂ hk₂ => ?_
    have F₂ := fr_off F hk₂ (by simpa using hI.1.symm) (by simpa using hI.2.1)
    have N₂ := news_off N hk₂ offI
    refine O.asg _ v u own _ _ hO (fun p hp => (N₂ p (List.mem_append_left _ hp)).1) fun h₃ tk₃ own₃ hO₃ ho₃ hk₃ => ?_
    have F₃ : Fr h₀ L h₃ m := fr_off F₂ hk₃ (fun q => (hca _ q).1 rfl) fun a ha => (hca a ha).2.1
    have hst₃ : St (i + 1) h₃ := W.frame _ _ _ hst₂ fun b hb o e => hk₃ b o (fun q => (hca b q).2.2.2.2 hb) e
    obtain ⟨oI, heI⟩ := hIo _ _ hst₃
    have N₃ : News h₀ L h₃ ((I, oI) :: (own₃ ++ (D, lstO ys) :: (nx ++ old))) := by
      intro p hp
      rcases List.mem_cons.mp hp with rfl | hp
      · exact ⟨heI, hI.1, hI.2.1⟩
      · rcases List.mem_append.mp hp with hp | hp
        · have := hca _ (ownI hO₃ p hp)
          exact ⟨ho₃ p hp, this.1, this.2.1⟩
        · have z := N₂ p (List.mem_append_right _ hp)
          refine ⟨hk₃ _ _ (fun q => ?_) z.1, z.2⟩
          rcases List.mem_cons.mp hp with rfl | hp
          · exact (hca _ q).2.2.2.1 rfl
          · exact hoff p hp (.tail _ (.tail _ q))
    have T := turn i v oI own₃ ys nx h₃ tk₃ hlt hPv hj hO₃ F₃ N₃ hoff
    have fin : ∀ (ys' : List Value) (s₄ : Shared), ys'.length ≤ i + 1 → CTurn h₀ L m (J (i + 1) ys') ((I, oI) :: (own₃ ++ (D, lstO ys) :: old)) (I :: D :: ca) s s₄ →
        ∃ h tk nx, s₄ = { s with heap := h, toks := tk } ∧ St (i + 1) h ∧ Fr h₀ L h m ∧ News h₀ L h (own₃ ++ (D, lstO ys) :: (nx ++ old)) ∧ (∀ p ∈ nx ++ old, p.1 ∉ I :: D :: ca) ∧ J (i + 1) ys' nx := by
      rintro ys' s₄ _ ⟨h₄, tk₄, nx₄, news₄, rfl, F₄, N₄, h1, h2, h3, hj₄⟩
      have NN : News h₀ L h₄ (own₃ ++ (D, lstO ys) :: (nx₄ ++ old)) := by
        intro p hp
        refine N₄ p ?_
        rcases List.mem_append.mp hp with hp | hp
        · exact h2 p (.tail _ (List.mem_append_left _ hp))
        · rcases List.mem_cons.mp hp with rfl | hp
          · exact h2 _ (.tail _ (List.mem_append_right _ (.head _)))
          · rcases List.mem_append.mp hp with hp | hp
            · exact h1 p hp
            · exact h2 p (.tail _ (List.mem_append_right _ (.tail _ hp)))
      have No : News h₀ L h₄ (nx₄ ++ old) := fun p hp => NN p (List.mem_append_right _ (.tail _ hp))
      refine ⟨h₄, tk₄, nx₄, rfl, hSt _ _ _ oI ys' nx₄ hlt hst₃ heI (N₄ _ (h2 _ (.head _))).1 F₄ No hj₄, F₄, NN, ?_, hj₄⟩
      intro p hp
      rcases List.mem_append.mp hp with hp | hp
      · exact h3 p hp
      · exact hoff p (List.mem_append_right _ hp)
    refine wpAny_mono (TestsP.run (E := notedBy (model prog w) A cenv fun e s' => R (.error e) s') T) (fun b s₃ hb => ?_) fun _ _ e => e
    cases b with
    | false =>
      simp only [Bool.false_eq_true, if_false] at hb ⊢
      obtain ⟨h₄, tk₄, nx₄, rfl, hst₄, F₄, N₄, off₄, hj₄⟩ := fin ys s₃ (Nat.le_succ_of_le hyl) hb
      exact ⟨n + 1 - (i + 1), by omega, h₄, tk₄, i + 1, ys, own₃, nx₄, _, rfl, hlt, rfl, Nat.le_succ_of_le hyl, hst₄, F₄, hO₃, N₄, off₄, hj₄⟩
    | true =>
      simp only [if_true] at hb ⊢
      refine wpAny_mono hb (fun y s₄ hy => ?_) fun _ _ e => e.elim
      obtain ⟨h₄, tk₄, nx₄, rfl, hst₄, F₄, N₄, off₄, hj₄⟩ := fin (ys ++ [y]) s₄ (by rw [List.length_append, List.length_singleton]; omega) hy
      have zD := (N₄ (D, lstO ys) (List.mem_append_right _ (.head _))).1
      refine append_at (hsz := by show ys.toArray.size ≤ sizeLine; rw [List.size_toArray]; omega) zD fun h₅ hs₅ hD₅ => ?_
      refine ⟨n + 1 - (i + 1), by omega, h₅, tk₄, i + 1, ys ++ [y], own₃, nx₄, _, rfl, hlt, rfl, by rw [List.length_append, List.length_singleton]; omega, W.frame _ _ _ hst₄ fun b hb o e => hs₅.extBut b o (fun q => hD.2.2 (q ▸ hb)) e,
        F₄.change hs₅ hD.1 hD.2.1, hO₃, ?_, off₄, hj₄⟩
      intro p hp
      rcases List.mem_append.mp hp with hp | hp
      · have z := N₄ p (List.mem_append_left _ hp)
        exact ⟨hs₅.extBut _ _ (hca _ (ownI hO₃ p hp)).2.2.2.1 z.1, z.2⟩
      · rcases List.mem_cons.mp hp with rfl | hp
        · exact ⟨hD₅.trans (congrArg some (LCg.lst_snoc ys y)), hD.1, hD.2.1⟩
        · have z := N₄ p (List.mem_append_right _ (.tail _ hp))
          exact ⟨hs₅.extBut _ _ (fun q => off₄ p hp (q ▸ .tail _ (.head _))) z.1, z.2⟩
  · obtain rfl : i = n := Nat.le_antisymm hi (Nat.not_lt.mp hlt)
    refine W.done _ _ _ hst fun h₂ tk₂ hk₂ => ?_
    exact done h₂ tk₂ ys own nx u hj hO (fr_off F hk₂ (by simpa using hI.1.symm) (by simpa using hI.2.1)) (news_off N hk₂ offI) hoff
end
end Mine
end
section
open PySem PySem.W PySem.Calls PyProof.Rows
set_option maxRecDepth 100000
namespace Mine

def OwnC (C : Addr) (x : Str) (own : List (Addr × Obj)) (u : Option Value) : Prop := ∃ oC m₂, own = [(C, oC)] ∧ LCg.NsObj oC m₂ ∧ ∀ v, u = some v → m₂ x = some v

theorem ownC {prog : Program} {w : World} {A : Around} {C : Addr} {x : Str} {px : Pos} {scope : Scope} {cl : List (Str × Addr)} {env : Env} (hkind : scope.kind = .function) (hx : scope.names.lookup x = some .local) :
    OwnOf (model prog w) A (compEnvC scope cl C env) (.Name x px) [C] (OwnC C x) where
  at_ := by rintro own v ⟨oC, m₂, rfl, _⟩; rfl
  asg := by
    rintro s v u own E Q ⟨oC, m₂, rfl, hC, _⟩ ho hQ
    refine wpAny_assign_Name (wpAny_storeName_local (lookup_relabel_local hx) (hC.ns (ho _ (.head _))) (fun h₃ hn₃ hs₃ => ?_) (by simp [compEnvC, relabel, hkind]))
    obtain ⟨o₃, e₃, hC₃⟩ := LCg.ns_obj hn₃
    refine hQ _ _ [(C, o₃)] ⟨o₃, _, rfl, hC₃, fun v' e => ?_⟩ (fun p hp => ?_) fun b o hb e => hs₃.extBut b o (fun q => hb (List.mem_singleton.mpr q)) e
    · cases e; simp
    · rw [List.mem_singleton.mp hp]; exact e₃

section
variable {prog : Program} {w : World} {A : Around} {s : Shared} {h₀ : Heap} {L : Addr} {m : Str → Option Value} {env : Env}

def CompRun (prog : Program) (w : World) (A : Around) (env : Env) (elt iter target : Expr) (ifs : List Expr) (scope : Scope) (cl : List (Str × Addr)) (pos : Pos) (E : Value → Shared → Prop) (RR : Value → Addr → Result → Shared → Prop) (it : Value) (s : Shared) : Prop :=
  wpAny (model prog w) A (newList []) (fun acc s₃ => wpAny (model prog w) A (newFunctionEnv scope env.globals cl [] env.qual none .none (some env)) (fun cenv s₄ =>
    codeAny (model prog w) A (.compStart (.ListComp elt [⟨target, iter, ifs, 0⟩] scope pos) 0 it acc { cenv with scope := relabel scope env }) (RR acc cenv.locals) s₄) E s₃) E s

theorem Comp_ev {elt iter : Expr} {x : Str} {px : Pos} {ifs : List Expr} {scope : Scope} {cl : List (Str × Addr)} {pos : Pos} {Q : Value → Shared → Prop} {E : Value → Shared → Prop}
    (hclos : closureFor scope env = pure cl) (hkind : scope.kind = .function) (hnames : ∀ y ∈ scope.names, y.2 = .local → scope.names.lookup y.1 = some .local)
    (h : wpAny (model prog w) A (eval iter env) (fun xv s₁ => wpAny (model prog w) A (pyIter xv) (fun it s₂ => CompRun prog w A env elt iter (.Name x px) ifs scope cl pos E (fun acc C => compPost (model prog w) A E none Q acc C) it s₂) E s₁) E s)
    (hs : ∀ x, foldedSetIterable iter env x = pure x := by intro _; rfl) :
    wpAny (model prog w) A (eval (.ListComp elt [⟨.Name x px, iter, ifs, 0⟩] scope pos) env) Q E s := by
  rw [eval_ListComp]
  exact wpAny_comprehension_free (use := none) rfl hs hclos hkind hnames h

theorem Comp_as {elt iter : Expr} {x y : Str} {px py : Pos} {ifs : List Expr} {scope : Scope} {cl : List (Str × Addr)} {pos spos : Pos} {Q : Flow → Shared → Prop} {E : Value → Shared → Prop}
    (hsw : swapsWith (.ListComp elt [⟨.Name x px, iter, ifs, 0⟩] scope pos) (some (.Name y py)) spos.line env = pure true)
    (hclos : closureFor scope env = pure cl) (hkind : scope.kind = .function) (hnames : ∀ y ∈ scope.names, y.2 = .local → scope.names.lookup y.1 = some .local)
    (h : wpAny (model prog w) A (eval iter env) (fun xv s₁ => wpAny (model prog w) A (pyIter xv) (fun it s₂ => CompRun prog w A env elt iter (.Name x px) ifs scope cl pos E (fun acc C => compPost (model prog w) A E (some (assign (.Name y py) env)) (fun _ s' => Q .next s') acc C) it s₂) E s₁) E s)
    (hs : ∀ x, foldedSetIterable iter env x = pure x := by intro _; rfl) :
    wpAny (model prog w) A (exec (.Assign [.Name y py] (.ListComp elt [⟨.Name x px, iter, ifs, 0⟩] scope pos) spos) env) Q E s := by
  rw [exec_Assign_Name_used _ _ _ _ hsw]
  refine wpAny_bind (wpAny_standAt (wpAny_bind ?_))
  show wpAny _ A (do let _ ← comprehension (.ListComp elt [⟨.Name x px, iter, ifs, 0⟩] scope pos) scope env _ (newList []) false (eval iter env) (some (assign (.Name y py) env))) _ _ s
  exact wpAny_bind (wpAny_mono (wpAny_comprehension_free (use := some (assign (.Name y py) env)) (Q := fun _ s' => Q .next s') rfl hs hclos hkind hnames h) (fun _ s' hq => wpAny_pure (wpAny_pure hq)) fun _ _ e => e)

/-- how a block is left -/
def CompK (h₀ : Heap) (L : Addr) (m : Str → Option Value) (RR : Value → Addr → Result → Shared → Prop) (mm : Addr → Str → Option Value) (Qf : Addr → Shared → Prop) (s : Shared) : Prop :=
  ∀ D C h tk m' (ys : List Value) news', h₀.get? C = none → C ≠ L → Fr h₀ L h m → News h₀ L h ((D, lstO ys) :: news') → h.Ns C m' → C ≠ D → (∀ p ∈ news', p.1 ≠ C) →
    (∀ h'' tk'', Fr h₀ L h'' (mm D) → News h₀ L h'' ((D, lstO ys) :: news') → Qf D { s with heap := h'', toks := tk'' }) → RR (.ref D) C (.ok .next) { s with heap := h, toks := tk }

theorem news_change {h₀ h h' : Heap} {L C : Addr} {news : List (Addr × Obj)} (N : News h₀ L h news) (hs : Heap.SameBut C h h') (off : ∀ p ∈ news, p.1 ≠ C) : News h₀ L h' news :=
  fun p hp => ⟨hs.extBut _ _ (off p hp) (N p hp).1, (N p hp).2⟩
theorem off_cons {D C : Addr} {o : Obj} {news : List (Addr × Obj)} (h : C ≠ D) (off : ∀ p ∈ news, p.1 ≠ C) : ∀ p ∈ (D, o) :: news, p.1 ≠ C := fun p hp => by
  rcases List.mem_cons.mp hp with rfl | hp
  · exact Ne.symm h
  · exact off p hp

theorem compK_ev {Q : Value → Shared → Prop} {E : Value → Shared → Prop} : CompK h₀ L m (fun acc C => compPost (model prog w) A E none Q acc C) (fun _ => m) (fun D s' => Q (.ref D) s') s := by
  intro D C h tk m' ys news' hC hCL F N hn hCD off k
  exact ⟨m', hn, fun h' hs => k h' tk (F.change hs hCL hC) (news_change N hs (off_cons hCD off))⟩
theorem compK_as {y : Str} {py : Pos} {Q : Flow → Shared → Prop} {E : Value → Shared → Prop} (hLe : env.locals = L) (hy : env.kindOf y = some .local) (hp : (env.scope.kind == .class || (env.scope.kind == .module && env.locals != env.globals)) = false) :
    CompK h₀ L m (fun acc C => compPost (model prog w) A E (some (assign (.Name y py) env)) (fun _ s' => Q .next s') acc C) (fun D z => if z = y then some (.ref D) else m z) (fun _ s' => Q .next s') s := by
  subst hLe
  intro D C h tk m' ys news' hC hCL F N hn hCD off k
  show wpAny _ A (assign (.Name y py) env (.ref D)) _ _ _
  refine wpAny_assign_Name (wpAny_storeName_local hy F.ns (fun h₂ hn₂ hs₂ => ?_) hp)
  have F₂ : Fr h₀ env.locals h₂ (fun z => if z = y then some (.ref D) else m z) := F.set hn₂ hs₂
  have N₂ : News h₀ env.locals h₂ ((D, lstO ys) :: news') := N.set hs₂
  exact ⟨m', hn.sameBut hs₂ hCL, fun h' hs => k h' _ (F₂.change hs hCL hC) (news_change N₂ hs (off_cons hCD off))⟩

/-- a block over a source -/
theorem block_J {elt iter : Expr} {x : Str} {px : Pos} {ifs : List Expr} {scope : Scope} {cl : List (Str × Addr)} {pos : Pos} {E : Value → Shared → Prop} {RR : Value → Addr → Result → Shared → Prop} {mm : Addr → Str → Option Value} {Qf : Addr → Shared → Prop}
    {I : Addr} {fp : List Addr} {n : Nat} {P : Nat → Value → Prop} {St : Nat → Heap → Prop} {nx old : List (Addr × Obj)}
    (W : Walks prog w A I fp [I] n P St) (J : Nat → List Value → List (Addr × Obj) → Prop) (K : CompK h₀ L m RR mm Qf s) (hsz : n ≤ sizeLine)
    (hcell : ∀ y ∈ scope.names, y.2 ≠ .cell) (hkind : scope.kind = .function) (hx : scope.names.lookup x = some .local)
    (hIo : ∀ i h, St i h → ∃ o, h.get? I = some o)
    (hSt : ∀ i h h' o ys nx, i ≤ n → St i h → h.get? I = some o → h'.get? I = some o → Fr h₀ L h' m → News h₀ L h' (nx ++ old) → J i ys nx → St i h')
    (hI : I ≠ L ∧ h₀.get? I = none) (hfp : ∀ b ∈ fp, b < s.heap.objs.size)
    (hst : St 0 s.heap) (F : Fr h₀ L s.heap m) (N : News h₀ L s.heap (nx ++ old)) (hoff : ∀ p ∈ nx ++ old, p.1 ≠ I) (hj : J 0 [] nx)
    (turn : ∀ i v I oI C oC D m₂ ys nx h tk, i < n → P i v → J i ys nx → LCg.NsObj oC m₂ → m₂ x = some v → Fr h₀ L h m → News h₀ L h ((I, oI) :: (C, oC) :: (D, lstO ys) :: (nx ++ old)) → (∀ p ∈ nx ++ old, p.1 ∉ [I, D, C]) → ((@Ne Nat I C) ∧ (@Ne Nat I D) ∧ (@Ne Nat C D)) → s.heap.objs.size ≤ D → D < C →
      TestsP (model prog w) A ifs (compEnvC scope cl C env) (fun b s₂ => if b = true then wpAny (model prog w) A (eval elt (compEnvC scope cl C env)) (fun y s₃ => CTurn h₀ L m (J (i + 1) (ys ++ [y])) ((I, oI) :: (C, oC) :: (D, lstO ys) :: old) [I, D, C] s s₃) F0 s₂
        else CTurn h₀ L m (J (i + 1) ys) ((I, oI) :: (C, oC) :: (D, lstO ys) :: old) [I, D, C] s s₂) { s with heap := h, toks := tk })
    (done : ∀ D h tk ys nx, J n ys nx → Fr h₀ L h (mm D) → News h₀ L h ((D, lstO ys) :: (nx ++ old)) → (∀ p ∈ nx ++ old, p.1 ≠ D) → Qf D { s with heap := h, toks := tk }) :
    CompRun prog w A env elt iter (.Name x px) ifs scope cl pos E RR (.ref I) s := by
  unfold CompRun
  refine wpAny_newObj_type (wpAny_newFunctionEnv hcell (by intro y hy; simp at hy) (fun h₁ hns₁ hsb₁ => ?_) hkind)
  dsimp only at hns₁ hsb₁ ⊢
  generalize hH2 : s.heap.push { cls := .type "list", dict := none, data := .seq ([] : List Value).toArray } = H2 at hns₁ hsb₁ ⊢
  have hC : H2.objs.size = s.heap.objs.size + 1 := by rw [← hH2, Heap.size_push]
  have hDC : s.heap.objs.size ≠ H2.objs.size := by rw [hC]; exact Nat.ne_of_lt (Nat.lt_succ_self _)
  have below : ∀ b, b < s.heap.objs.size → b ≠ H2.objs.size ∧ b ≠ s.heap.objs.size := fun b hb => ⟨by rw [hC]; exact Nat.ne_of_lt (Nat.lt_succ_of_lt hb), Nat.ne_of_lt hb⟩
  have hDf : s.heap.objs.size ∉ fp := fun hm => Nat.lt_irrefl _ (hfp _ hm)
  have hCf : H2.objs.size ∉ fp := fun hm => by have := hfp _ hm; rw [hC] at this; exact Nat.lt_irrefl _ (Nat.lt_of_succ_lt this)
  have hIlt : I < s.heap.objs.size := hfp I (W.sub I (List.mem_singleton.mpr rfl))
  have old' : ∀ b o, s.heap.get? b = some o → h₁.get? b = some o := fun b o e => hsb₁.extBut b o (below b (Heap.lt_size e)).1 (Heap.get?_push_of_some _ (hH2 ▸ Heap.get?_push_of_some _ e))
  have hacc : h₁.get? s.heap.objs.size = some (lstO []) := hsb₁.extBut _ _ hDC (Heap.get?_push_of_some _ (hH2 ▸ Heap.get?_push_size _ rfl))
  have hst₁ : St 0 h₁ := W.frame _ _ _ hst fun b _ o e => old' b o e
  have fresh₀ : ∀ a, s.heap.objs.size ≤ a → h₀.get? a = none := fun a ha => by
    cases e : h₀.get? a with
    | none => rfl
    | some o' => exact absurd (Heap.lt_size (F.keep a o' e)) (Nat.not_lt.mpr ha)
  have hD₀ : h₀.get? s.heap.objs.size = none := fresh₀ _ (Nat.le_refl _)
  have hC₀ : h₀.get? H2.objs.size = none := fresh₀ _ (by rw [hC]; exact Nat.le_succ _)
  have hLlt : L < s.heap.objs.size := F.ns.lt
  obtain ⟨oC, eC, hoC⟩ := LCg.ns_obj hns₁
  have offD : ∀ p ∈ nx ++ old, p.1 ∉ I :: s.heap.objs.size :: [H2.objs.size] := by
    intro p hp q
    have b := below _ (Heap.lt_size (N p hp).1)
    rcases List.mem_cons.mp q with e | q
    · exact hoff p hp e
    · rcases List.mem_cons.mp q with e | q
      · exact b.2 e
      · exact b.1 (List.mem_singleton.mp q)
  have loop : ∀ s₃ : Shared, s₃ = { s with heap := h₁, toks := s.toks + ([] : List (Str × Value)).length } →
      codeAny (model prog w) A (.compLoop (.ListComp elt [⟨.Name x px, iter, ifs, 0⟩] scope pos) 0 (.ref I) (.ref s.heap.objs.size) (compEnvC scope cl H2.objs.size env))
        (RR (.ref s.heap.objs.size) H2.objs.size) s₃ := by
    rintro s₃ rfl
    refine loop_J (own := [(H2.objs.size, oC)]) (nx := nx) (old := old) (ca := [H2.objs.size]) (u := none) W J (ownC hkind hx) hsz hIo hSt ?_ ⟨hI.1, hI.2, (below I hIlt).2⟩ ⟨Ne.symm (below L hLlt).2, hD₀, hDf⟩ hst₁ (F.keeps old') ?_ ⟨oC, _, rfl, hoC, fun _ e => nomatch e⟩ offD hj ?_ ?_
    · intro a ha
      rw [List.mem_singleton.mp ha]
      exact ⟨Ne.symm (below L hLlt).1, hC₀, Ne.symm (below I hIlt).1, Ne.symm hDC, hCf⟩
    · intro p hp
      rcases List.mem_cons.mp hp with rfl | hp
      · exact ⟨eC, Ne.symm (below L hLlt).1, hC₀⟩
      · rcases List.mem_cons.mp hp with rfl | hp
        · exact ⟨hacc, Ne.symm (below L hLlt).2, hD₀⟩
        · exact ⟨old' _ _ (N p hp).1, (N p hp).2⟩
    · rintro i v oI own ys nx h tk hi hP hJ ⟨oC', m₂, rfl, hC', hv⟩ F' N' off'
      refine tests_rebase ?_
      exact turn i v I oI H2.objs.size oC' s.heap.objs.size m₂ ys nx h tk hi hP hJ hC' (hv v rfl) F' N' off' ⟨(below I hIlt).1, (below I hIlt).2, Ne.symm hDC⟩ (Nat.le_refl _) (by rw [hC]; exact Nat.lt_succ_self _)
    · rintro h tk ys own nx u hJ ⟨oC', m₂, rfl, hC', _⟩ F' N' off'
      have ND : News h₀ L h ((s.heap.objs.size, lstO ys) :: (nx ++ old)) := fun p hp => N' p (.tail _ hp)
      have offD' : ∀ p ∈ nx ++ old, p.1 ≠ s.heap.objs.size := fun p hp e => off' p hp (e ▸ .tail _ (.head _))
      exact K _ _ h tk m₂ ys (nx ++ old) hC₀ (Ne.symm (below L hLlt).1) F' ND (hC'.ns (N' _ (.head _)).1) (Ne.symm hDC) (fun p hp e => off' p hp (e ▸ .tail _ (.tail _ (.head _)))) fun h'' tk'' F'' N'' => done _ h'' tk'' ys nx hJ F'' N'' offD'
  exact codeAny_compStart_list (loop _ rfl) (W.self 0 _ _ _ hst₁ (loop _ rfl))

/-- over a list that stays as it is -/
theorem list_J {elt iter : Expr} {x : Str} {px : Pos} {ifs : List Expr} {scope : Scope} {cl : List (Str × Addr)} {pos : Pos} {E : Value → Shared → Prop} {RR : Value → Addr → Result → Shared → Prop} {mm : Addr → Str → Option Value} {Qf : Addr → Shared → Prop}
    {l : Addr} {vs : List Value} {nx old : List (Addr × Obj)}
    (J : Nat → List Value → List (Addr × Obj) → Prop) (K : ∀ g, CompK h₀ L m RR mm Qf { s with heap := g }) (hh : A.handled = none) (hl : s.heap.IsList l vs.toArray) (hsz : vs.length ≤ sizeLine)
    (hsrc : ∀ i ys nx h, i ≤ vs.length → J i ys nx → Fr h₀ L h m → News h₀ L h (nx ++ old) → ∀ o, s.heap.get? l = some o → h.get? l = some o)
    (F : Fr h₀ L s.heap m) (N : News h₀ L s.heap (nx ++ old)) (hj : J 0 [] nx)
    (turn : ∀ i v I oI C oC D m₂ ys nx h tk, i < vs.length → vs[i]? = some v → J i ys nx → LCg.NsObj oC m₂ → m₂ x = some v → h.IsList l vs.toArray → Fr h₀ L h m → News h₀ L h ((I, oI) :: (C, oC) :: (D, lstO ys) :: (nx ++ old)) → (∀ p ∈ nx ++ old, p.1 ∉ [I, D, C]) → ((@Ne Nat I C) ∧ (@Ne Nat I D) ∧ (@Ne Nat C D)) → (s.heap.objs.size < D ∧ D < C) →
      TestsP (model prog w) A ifs (compEnvC scope cl C env) (fun b s₂ => if b = true then wpAny (model prog w) A (eval elt (compEnvC scope cl C env)) (fun y s₃ => CTurn h₀ L m (J (i + 1) (ys ++ [y])) ((I, oI) :: (C, oC) :: (D, lstO ys) :: old) [I, D, C] s s₃) F0 s₂
        else CTurn h₀ L m (J (i + 1) ys) ((I, oI) :: (C, oC) :: (D, lstO ys) :: old) [I, D, C] s s₂) { s with heap := h, toks := tk })
    (done : ∀ D h tk ys nx, J vs.length ys nx → Fr h₀ L h (mm D) → News h₀ L h ((D, lstO ys) :: (nx ++ old)) → (∀ p ∈ nx ++ old, p.1 ≠ D) → Qf D { s with heap := h, toks := tk })
    (hcell : ∀ y ∈ scope.names, y.2 ≠ .cell := by decide) (hkind : scope.kind = .function := by rfl) (hx : scope.names.lookup x = some .local := by rfl) :
    wpAny (model prog w) A (pyIter (.ref l)) (fun it s₂ => CompRun prog w A env elt iter (.Name x px) ifs scope cl pos E RR it s₂) E s := by
  refine wpAny_pyIter_list hl ?_
  obtain ⟨ol, hol, rl⟩ := id hl
  have hlt : l < s.heap.objs.size := Heap.lt_size hol
  have W := Walks.list (prog := prog) (w := w) hh s.heap.objs.size l (Nat.ne_of_lt hlt) vs.toArray
  have hlen : vs.toArray.size = vs.length := by simp
  rw [hlen] at W
  have hI0 : h₀.get? s.heap.objs.size = none := by
    cases e : h₀.get? s.heap.objs.size with
    | none => rfl
    | some o => exact absurd (Heap.lt_size (F.keep _ _ e)) (Nat.lt_irrefl _)
  refine block_J (nx := nx) (old := old) W J (K _) hsz hcell hkind hx (fun i h st => by obtain ⟨o, e, _⟩ := st.1; exact ⟨o, e⟩) ?_ ⟨Nat.ne_of_gt F.ns.lt, hI0⟩ ?_ ⟨⟨_, Heap.get?_push_size _ rfl, rfl, rfl⟩, hl.push _⟩ (F.push _) (fun p hp => ⟨Heap.get?_push_of_some _ (N p hp).1, (N p hp).2⟩)
    (fun p hp => Nat.ne_of_lt (Heap.lt_size (N p hp).1)) hj ?_ ?_
  · rintro i h h' o ys nx hi st e e' F' N' hJ
    refine ⟨?_, ⟨ol, hsrc i ys nx h' hi hJ F' N' ol hol, rl⟩⟩
    obtain ⟨o', q, r⟩ := st.1
    rw [e] at q; cases q
    exact ⟨o, e', r⟩
  · intro b hb
    show b < (s.heap.push _).objs.size
    rw [Heap.size_push]
    rcases List.mem_cons.mp hb with rfl | hb
    · exact Nat.lt_succ_self _
    · rw [List.mem_singleton.mp hb]; exact Nat.lt_succ_of_lt hlt
  · intro i v I oI C oC D m₂ ys nx h tk hi hP hJ hC hv F' N' off' ne' hle hDC
    have hlh : h.IsList l vs.toArray := ⟨ol, hsrc i ys nx h (Nat.le_of_lt hi) hJ F' (fun p hp => N' p (.tail _ (.tail _ (.tail _ hp)))) ol hol, rl⟩
    have hle' : s.heap.objs.size < D := by
      dsimp only at hle
      rw [Heap.size_push] at hle; exact hle
    have T := turn i v I oI C oC D m₂ ys nx h tk hi (by simpa using hP) hJ hC hv hlh F' N' off' ne' ⟨hle', hDC⟩
    exact tests_rebase (tk := s.toks) T
  · intro D h tk ys nx hJ F' N' off'
    exact done D h tk ys nx hJ F' N' off'

/-- over a range -/
theorem range_J {elt iter : Expr} {x : Str} {px : Pos} {ifs : List Expr} {scope : Scope} {cl : List (Str × Addr)} {pos : Pos} {E : Value → Shared → Prop} {RR : Value → Addr → Result → Shared → Prop} {mm : Addr → Str → Option Value} {Qf : Addr → Shared → Prop}
    {r : Addr} {a b : Int} {t u v : Tok} {n : Nat} {nx old : List (Addr × Obj)}
    (J : Nat → List Value → List (Addr × Obj) → Prop) (K : ∀ g, CompK h₀ L m RR mm Qf { s with heap := g }) (hh : A.handled = none) (hr : IsRange s.heap r a b 1 t u v) (hsmall : Builtin.Range.small a b 1 = true) (hn : Builtin.Range.rangeSize a b 1 = (n : Int)) (hsz : n ≤ sizeLine)
    (F : Fr h₀ L s.heap m) (N : News h₀ L s.heap (nx ++ old)) (hj : J 0 [] nx)
    (turn : ∀ (i : Nat) t I oI C oC D m₂ ys nx h tk, i < n → J i ys nx → LCg.NsObj oC m₂ → m₂ x = some (.int (a + i) t) → Fr h₀ L h m → News h₀ L h ((I, oI) :: (C, oC) :: (D, lstO ys) :: (nx ++ old)) → (∀ p ∈ nx ++ old, p.1 ∉ [I, D, C]) → ((@Ne Nat I C) ∧ (@Ne Nat I D) ∧ (@Ne Nat C D)) → (s.heap.objs.size < D ∧ D < C) →
      TestsP (model prog w) A ifs (compEnvC scope cl C env) (fun b s₂ => if b = true then wpAny (model prog w) A (eval elt (compEnvC scope cl C env)) (fun y s₃ => CTurn h₀ L m (J (i + 1) (ys ++ [y])) ((I, oI) :: (C, oC) :: (D, lstO ys) :: old) [I, D, C] s s₃) F0 s₂
        else CTurn h₀ L m (J (i + 1) ys) ((I, oI) :: (C, oC) :: (D, lstO ys) :: old) [I, D, C] s s₂) { s with heap := h, toks := tk })
    (done : ∀ D h tk ys nx, J n ys nx → Fr h₀ L h (mm D) → News h₀ L h ((D, lstO ys) :: (nx ++ old)) → (∀ p ∈ nx ++ old, p.1 ≠ D) → Qf D { s with heap := h, toks := tk })
    (hcell : ∀ y ∈ scope.names, y.2 ≠ .cell := by decide) (hkind : scope.kind = .function := by rfl) (hx : scope.names.lookup x = some .local := by rfl) :
    wpAny (model prog w) A (pyIter (.ref r)) (fun it s₂ => CompRun prog w A env elt iter (.Name x px) ifs scope cl pos E RR it s₂) E s := by
  refine wpAny_pyIter_range hr hsmall ?_
  have W := Walks.range (prog := prog) (w := w) hh s.heap.objs.size a 1 n
  have hI0 : h₀.get? s.heap.objs.size = none := by
    cases e : h₀.get? s.heap.objs.size with
    | none => rfl
    | some o => exact absurd (Heap.lt_size (F.keep _ _ e)) (Nat.lt_irrefl _)
  refine block_J (nx := nx) (old := old) W J (K _) hsz hcell hkind hx (fun i h st => ⟨_, st⟩) ?_ ⟨Nat.ne_of_gt F.ns.lt, hI0⟩ ?_ ?_ (F.push _) (fun p hp => ⟨Heap.get?_push_of_some _ (N p hp).1, (N p hp).2⟩)
    (fun p hp => Nat.ne_of_lt (Heap.lt_size (N p hp).1)) hj ?_ ?_
  · rintro i h h' o ys nx hi st e e' F' N' hJ
    exact LCg.range_st (h₀ := h₀) (L := L) (a := a) (n := n) i h h' o [] (by simpa [Int.mul_one] using st) e e' F'.keep News.nil trivial |> fun z => by simpa [Int.mul_one] using z
  · intro b hb
    show b < (s.heap.push _).objs.size
    rw [Heap.size_push, List.mem_singleton.mp hb]
    exact Nat.lt_succ_self _
  · show IsRangeIter _ _ _ _ _
    rw [hn]; simpa using Heap.get?_push_size _ rfl
  · intro i v I oI C oC D m₂ ys nx h tk hi hP hJ hC hv F' N' off' ne' hle hDC
    obtain ⟨t, rfl⟩ := hP
    have hle' : s.heap.objs.size < D := by
      dsimp only at hle
      rw [Heap.size_push] at hle; exact hle
    rw [Int.mul_one] at hv
    exact tests_rebase (tk := s.toks) (turn i t I oI C oC D m₂ ys nx h tk hi hJ hC hv F' N' off' ne' ⟨hle', hDC⟩)
  · intro D h tk ys nx hJ F' N' off'
    exact done D h tk ys nx hJ F' N' off'
end
end Mine
namespace Mine
section
variable {M : Model} {A : Around} {cenv : Env} {s : Shared} {X Y : Shared → Prop}
theorem TestsP.nil_if (h : X s) : TestsP M A [] cenv (fun b s₂ => if b = true then X s₂ else Y s₂) s := by
  show (if true = true then X s else Y s)
  rw [if_pos rfl]; exact h
theorem TestsP.one_if {c : Expr} (h : wpAny M A (isTrue c cenv (eval c cenv)) (fun b s₂ => if b = true then X s₂ else Y s₂) F0 s) : TestsP M A [c] cenv (fun b s₂ => if b = true then X s₂ else Y s₂) s := h
end
end Mine
end
section
open PySem PySem.W PySem.Calls PyProof.Rows
namespace Mine
section
variable {prog : Program} {w : World} {A : Around} {s : Shared}
/-! what is behind a stretch of code, as one letter -/
theorem abs_C {ifs : List Expr} {elt : Expr} {cenv : Env} {T : Value → Shared → Prop} {T' : Shared → Prop} (h : ∀ (R : Value → Shared → Prop) (R' : Shared → Prop), (∀ v s, T v s → R v s) → (∀ s, T' s → R' s) →
      TestsP (model prog w) A ifs cenv (fun b s₂ => if b = true then wpAny (model prog w) A (eval elt cenv) R F0 s₂ else R' s₂) s) :
    TestsP (model prog w) A ifs cenv (fun b s₂ => if b = true then wpAny (model prog w) A (eval elt cenv) T F0 s₂ else T' s₂) s := h T T' (fun _ _ x => x) fun _ x => x
theorem abs_law {env : Env} {c : Sem Flow} {T : Flow → Shared → Prop} {E : Value → Shared → Prop} (h : ∀ (R : Flow → Shared → Prop) (fr : Option (List Env)) (gd : Option (List Code)), (∀ f s, T f s → R f s) → wpAny (model prog w) (Ar 302 7 fr gd) c R F0 s) : wpAny (model prog w) (callerA.deeper env) c T E s :=
  wpAny_mono (h T _ _ fun _ _ x => x) (fun _ _ x => x) fun _ _ e => e.elim
end
end Mine
end
section
open PySem PySem.W PySem.Calls PyProof.Rows
set_option maxRecDepth 100000
namespace Mine
def OwnJ (C c : Addr) (own : List (Addr × Obj)) (u : Option Value) : Prop := ∃ oC m₂ oc, own = [(C, oC), (c, oc)] ∧ LCg.NsObj oC m₂ ∧ oc.data = .cell u

theorem ownJ {prog : Program} {w : World} {A : Around} {C c : Addr} {x : Str} {px : Pos} {scope : Scope} {cl : List (Str × Addr)} {env : Env} (hkind : scope.kind = .function) (hx : (compEnvC scope ((x, c) :: cl) C env).kindOf x = some .cell) (hCc : C ≠ c) :
    OwnOf (model prog w) A (compEnvC scope ((x, c) :: cl) C env) (.Name x px) [C, c] (OwnJ C c) where
  at_ := by rintro own v ⟨oC, m₂, oc, rfl, _⟩; rfl
  asg := by
    rintro s v u own E Q ⟨oC, m₂, oc, rfl, hC, hd⟩ ho hQ
    have hc : (compEnvC scope ((x, c) :: cl) C env).cells.lookup x = some c := by simp [compEnvC, List.lookup_cons]
    refine wpAny_assign_Name (wpAny_storeName_cell (by simp [compEnvC, relabel, hkind]) hx hc ⟨oc, ho _ (.tail _ (.head _)), hd⟩ fun h' hv hs => ?_)
    obtain ⟨o', e', hd'⟩ := hv
    refine hQ _ _ [(C, oC), (c, o')] ⟨oC, m₂, o', rfl, hC, hd'⟩ (fun p hp => ?_) fun b o hb e => hs.extBut b o (fun q => hb (by rw [q]; exact .tail _ (.head _))) e
    rcases List.mem_cons.mp hp with rfl | hp
    · exact hs.extBut _ _ hCc (ho _ (.head _))
    · rw [List.mem_singleton.mp hp]; exact e'

section
variable {prog : Program} {w : World} {A : Around} {s : Shared} {h₀ : Heap} {L : Addr} {m : Str → Option Value} {env : Env}

abbrev cellO0 : Obj := { cls := .type "cell", data := .cell none }
abbrev dictO0 : Obj := { cls := .type "dict", data := .dict #[] }
theorem newEnv_cell {scope : Scope} {cl : List (Str × Addr)} {x : Str} {Q : Env → Shared → Prop} {E : Value → Shared → Prop} (hcells : ∀ n acc, cellsFrom n scope.names acc = (x, n) :: acc) (hpush : ∀ h, pushCells h scope.names = h.push cellO0)
    (h : Q (newEnv scope s.heap.objs.size env.globals ((x, s.heap.objs.size + 1) :: cl) env.qual none .none (some env) builtinsNs) { s with heap := (s.heap.push dictO0).push cellO0 }) :
    wpAny (model prog w) A (newFunctionEnv scope env.globals cl [] env.qual none .none (some env)) Q E s := by
  simp only [newFunctionEnv, Option.isSome_some, if_true]
  refine wpAny_bind (wpAny_alloc ?_)
  refine wpAny_bind (wpAny_layCells _ (fun name kind cells => by cases hkc : kind == NameKind.cell <;> simp [hkc]) _ _ _ _ ?_)
  rw [hcells, hpush]
  dsimp only
  rw [Heap.size_push, List.forIn_nil]
  exact wpAny_bind (wpAny_pure (wpAny_pure h))

/-- a block over a range whose variable is captured -/
theorem rangeC_J {elt iter : Expr} {x : Str} {px : Pos} {ifs : List Expr} {scope : Scope} {cl : List (Str × Addr)} {pos : Pos} {E : Value → Shared → Prop} {RR : Value → Addr → Result → Shared → Prop} {mm : Addr → Str → Option Value} {Qf : Addr → Shared → Prop}
    {r : Addr} {a b : Int} {t u v : Tok} {n : Nat} {nx old : List (Addr × Obj)}
    (J : Nat → List Value → List (Addr × Obj) → Prop) (K : ∀ g, CompK h₀ L m RR mm Qf { s with heap := g }) (hh : A.handled = none) (hr : IsRange s.heap r a b 1 t u v) (hsmall : Builtin.Range.small a b 1 = true) (hn : Builtin.Range.rangeSize a b 1 = (n : Int)) (hsz : n ≤ sizeLine)
    (F : Fr h₀ L s.heap m) (N : News h₀ L s.heap (nx ++ old)) (hj : J 0 [] nx)
    (turn : ∀ (i : Nat) t I oI C oC c oc D m₂ ys nx h tk, i < n → J i ys nx → LCg.NsObj oC m₂ → oc.data = .cell (some (.int (a + i) t)) → Fr h₀ L h m → News h₀ L h ((I, oI) :: (C, oC) :: (c, oc) :: (D, lstO ys) :: (nx ++ old)) → (∀ p ∈ nx ++ old, p.1 ∉ [I, D, C, c]) → (s.heap.objs.size < D ∧ D < C ∧ C < c) →
      TestsP (model prog w) A ifs (compEnvC scope ((x, c) :: cl) C env) (fun b s₂ => if b = true then wpAny (model prog w) A (eval elt (compEnvC scope ((x, c) :: cl) C env)) (fun y s₃ => CTurn h₀ L m (J (i + 1) (ys ++ [y])) ((I, oI) :: (C, oC) :: (c, oc) :: (D, lstO ys) :: old) [I, D, C, c] s s₃) F0 s₂
        else CTurn h₀ L m (J (i + 1) ys) ((I, oI) :: (C, oC) :: (c, oc) :: (D, lstO ys) :: old) [I, D, C, c] s s₂) { s with heap := h, toks := tk })
    (done : ∀ D h tk ys nx, J n ys nx → Fr h₀ L h (mm D) → News h₀ L h ((D, lstO ys) :: (nx ++ old)) → (∀ p ∈ nx ++ old, p.1 ≠ D) → Qf D { s with heap := h, toks := tk })
    (hcells : ∀ n acc, cellsFrom n scope.names acc = (x, n) :: acc := by intro _ _; rfl) (hpush : ∀ h, pushCells h scope.names = h.push cellO0 := by intro _; rfl) (hkind : scope.kind = .function := by rfl) (hx : ∀ c C, (compEnvC scope ((x, c) :: cl) C env).kindOf x = some .cell := by intro _ _; rfl) :
    wpAny (model prog w) A (pyIter (.ref r)) (fun it s₂ => CompRun prog w A env elt iter (.Name x px) ifs scope cl pos E RR it s₂) E s := by
  refine wpAny_pyIter_range hr hsmall ?_
  have W := Walks.range (prog := prog) (w := w) hh s.heap.objs.size a 1 n
  generalize hg1 : ({ s with heap := s.heap.push _ } : Shared) = s₁
  obtain ⟨oIt, hs1, hIt⟩ : ∃ oIt, s₁ = { s with heap := s.heap.push oIt } ∧ (s.heap.push oIt).get? s.heap.objs.size = some oIt := ⟨_, hg1.symm, Heap.get?_push_size _ rfl⟩
  have hst : IsRangeIter s₁.heap s.heap.objs.size (a + (0 : Nat) * 1) ((n : Int) - (0 : Nat)) 1 := by
    rw [← hg1]
    show IsRangeIter _ _ _ _ _
    rw [hn]; simpa using Heap.get?_push_size _ rfl
  clear hg1
  subst hs1
  dsimp only at hst ⊢
  unfold CompRun
  refine wpAny_newObj_type (newEnv_cell hcells hpush ?_)
  dsimp only
  generalize hH2 : (s.heap.push oIt).push { cls := .type "list", dict := none, data := .seq ([] : List Value).toArray } = H2
  have hI2 : (s.heap.push oIt).objs.size = s.heap.objs.size + 1 := Heap.size_push ..
  have hC : H2.objs.size = s.heap.objs.size + 1 + 1 := by rw [← hH2, Heap.size_push, Heap.size_push]
  generalize hHH : (H2.push dictO0).push cellO0 = h₁
  have old' : ∀ b o, s.heap.get? b = some o → h₁.get? b = some o := fun b o e => by
    rw [← hHH, ← hH2]
    exact Heap.get?_push_of_some _ (Heap.get?_push_of_some _ (Heap.get?_push_of_some _ (Heap.get?_push_of_some _ e)))
  have old1 : ∀ b o, (s.heap.push oIt).get? b = some o → h₁.get? b = some o := fun b o e => by
    rw [← hHH, ← hH2]
    exact Heap.get?_push_of_some _ (Heap.get?_push_of_some _ (Heap.get?_push_of_some _ e))
  have hacc : h₁.get? (s.heap.push oIt).objs.size = some (lstO []) := by
    rw [← hHH, ← hH2]
    exact Heap.get?_push_of_some _ (Heap.get?_push_of_some _ (Heap.get?_push_size _ rfl))
  have hCC : h₁.get? H2.objs.size = some dictO0 := by
    rw [← hHH]; exact Heap.get?_push_of_some _ (Heap.get?_push_size _ rfl)
  have hcc : h₁.get? (H2.objs.size + 1) = some cellO0 := by
    rw [← hHH]
    have := Heap.get?_push_size (H2.push dictO0) (o := cellO0) rfl
    rwa [Heap.size_push] at this
  have fresh₀ : ∀ a, s.heap.objs.size ≤ a → h₀.get? a = none := fun a ha => by
    cases e : h₀.get? a with
    | none => rfl
    | some o' => exact absurd (Heap.lt_size (F.keep a o' e)) (Nat.not_lt.mpr ha)
  have hLlt : L < s.heap.objs.size := F.ns.lt
  have nlt : ∀ p ∈ nx ++ old, p.1 < s.heap.objs.size := fun p hp => Heap.lt_size (N p hp).1
  have hNs : LCg.NsObj dictO0 (fun _ => none) := by
    have z := Heap.Ns.new H2 (.type "dict")
    obtain ⟨o, e, hN⟩ := LCg.ns_obj z
    have e' : o = dictO0 := by
      have := Heap.get?_push_size H2 (o := dictO0) rfl
      exact Option.some.inj (e.symm.trans this)
    exact e' ▸ hN
  have loop : ∀ s₃ : Shared, s₃ = { s with heap := h₁, toks := s.toks } →
      codeAny (model prog w) A (.compLoop (.ListComp elt [⟨.Name x px, iter, ifs, 0⟩] scope pos) 0 (.ref s.heap.objs.size) (.ref (s.heap.push oIt).objs.size) (compEnvC scope ((x, H2.objs.size + 1) :: cl) H2.objs.size env))
        (RR (.ref (s.heap.push oIt).objs.size) H2.objs.size) s₃ := by
    rintro s₃ rfl
    refine loop_J (own := [(H2.objs.size, dictO0), (H2.objs.size + 1, cellO0)]) (nx := nx) (old := old) (ca := [H2.objs.size, H2.objs.size + 1]) (u := none) W J (ownJ hkind (hx _ _) (Nat.ne_of_lt (Nat.lt_succ_self _))) hsz (fun i h st => ⟨_, st⟩) ?_ ?_ ⟨Nat.ne_of_gt hLlt, fresh₀ _ (Nat.le_refl _), ?_⟩ ⟨?_, ?_, ?_⟩ ?_ (F.keeps old') ?_ ⟨dictO0, _, cellO0, rfl, hNs, rfl⟩ ?_ hj ?_ ?_
    · rintro i h h' o ys nx hi st e e' F' N' hJ
      exact LCg.range_st (h₀ := h₀) (L := L) (a := a) (n := n) i h h' o [] (by simpa [Int.mul_one] using st) e e' F'.keep News.nil trivial |> fun z => by simpa [Int.mul_one] using z
    · intro q hq
      have h1 : q = s.heap.objs.size + 1 + 1 ∨ q = s.heap.objs.size + 1 + 1 + 1 := by
        rcases List.mem_cons.mp hq with rfl | hq
        · exact .inl hC
        · rw [List.mem_singleton.mp hq, hC]; exact .inr rfl
      have h2 : s.heap.objs.size + 1 < q := by rcases h1 with h1 | h1 <;> rw [h1] <;> exact Nat.lt_succ_of_le (by first | exact Nat.le_refl _ | exact Nat.le_succ _)
      have h3 : s.heap.objs.size < q := Nat.lt_of_succ_lt h2
      exact ⟨Nat.ne_of_gt (Nat.lt_trans hLlt h3), fresh₀ _ (Nat.le_of_lt h3), Nat.ne_of_gt h3, by rw [hI2]; exact Nat.ne_of_gt h2, fun hm => by rw [List.mem_singleton.mp hm] at h3; exact Nat.lt_irrefl _ h3⟩
    · rw [hI2]; exact Nat.ne_of_lt (Nat.lt_succ_self _)
    · rw [hI2]; exact Nat.ne_of_gt (Nat.lt_succ_of_lt hLlt)
    · exact fresh₀ _ (by rw [hI2]; exact Nat.le_succ _)
    · rw [hI2]; exact fun hm => absurd (List.mem_singleton.mp hm) (Nat.ne_of_gt (Nat.lt_succ_self _))
    · exact W.frame _ _ _ hst fun b _ o e => old1 b o e
    · intro p hp
      rcases List.mem_append.mp hp with hp | hp
      · rcases List.mem_cons.mp hp with rfl | hp
        · exact ⟨hCC, Nat.ne_of_gt (by rw [hC]; exact Nat.lt_succ_of_lt (Nat.lt_succ_of_lt hLlt)), fresh₀ _ (by rw [hC]; exact Nat.le_succ_of_le (Nat.le_succ _))⟩
        · rw [List.mem_singleton.mp hp]
          exact ⟨hcc, Nat.ne_of_gt (by rw [hC]; exact Nat.lt_succ_of_lt (Nat.lt_succ_of_lt (Nat.lt_succ_of_lt hLlt))), fresh₀ _ (by rw [hC]; exact Nat.le_succ_of_le (Nat.le_succ_of_le (Nat.le_succ _)))⟩
      · rcases List.mem_cons.mp hp with rfl | hp
        · exact ⟨hacc, Nat.ne_of_gt (by rw [hI2]; exact Nat.lt_succ_of_lt hLlt), fresh₀ _ (by rw [hI2]; exact Nat.le_succ _)⟩
        · exact ⟨old' _ _ (N p hp).1, (N p hp).2⟩
    · intro p hp q
      have b := nlt p hp
      rcases List.mem_cons.mp q with e | q
      · rw [e] at b; exact Nat.lt_irrefl _ b
      · rcases List.mem_cons.mp q with e | q
        · rw [e, hI2] at b; exact absurd b (Nat.not_lt.mpr (Nat.le_succ _))
        · rcases List.mem_cons.mp q with e | q
          · rw [e, hC] at b; exact absurd b (Nat.not_lt.mpr (Nat.le_succ_of_le (Nat.le_succ _)))
          · rw [List.mem_singleton.mp q, hC] at b; exact absurd b (Nat.not_lt.mpr (Nat.le_succ_of_le (Nat.le_succ_of_le (Nat.le_succ _))))
    · rintro i v oI own ys nx h tk hi hP hJ ⟨oC', m₂, oc, rfl, hC', hd⟩ F' N' off'
      obtain ⟨t, rfl⟩ := hP
      rw [Int.mul_one] at hd
      refine tests_rebase ?_
      refine turn i t s.heap.objs.size oI H2.objs.size oC' (H2.objs.size + 1) oc (s.heap.push oIt).objs.size m₂ ys nx h tk hi hJ hC' hd F' N' off' ⟨?_, ?_, Nat.lt_succ_self _⟩
      · rw [hI2]; exact Nat.lt_succ_self _
      · rw [hI2, hC]; exact Nat.lt_succ_self _
    · rintro h tk ys own nx u hJ ⟨oC', m₂, oc, rfl, hC', _⟩ F' N' off'
      have ND : News h₀ L h (((s.heap.push oIt).objs.size, lstO ys) :: (nx ++ old)) := fun p hp => N' p (.tail _ (.tail _ hp))
      refine K h₁ _ _ h tk m₂ ys (nx ++ old) (fresh₀ _ (by rw [hC]; exact Nat.le_succ_of_le (Nat.le_succ _))) (Nat.ne_of_gt (by rw [hC]; exact Nat.lt_succ_of_lt (Nat.lt_succ_of_lt hLlt))) F' ND (hC'.ns (N' _ (.head _)).1) (Nat.ne_of_gt (by rw [hI2, hC]; exact Nat.lt_succ_self _)) (fun p hp e => off' p hp (e ▸ .tail _ (.tail _ (.head _)))) fun h'' tk'' F'' N'' => ?_
      exact done _ h'' tk'' ys nx hJ F'' N'' fun p hp e => off' p hp (e ▸ .tail _ (.head _))
  have hst₁ : IsRangeIter h₁ s.heap.objs.size (a + (0 : Nat) * 1) ((n : Int) - (0 : Nat)) 1 := W.frame _ _ _ hst fun b _ o e => old1 b o e
  exact codeAny_compStart_list (loop _ rfl) (W.self 0 _ _ _ hst₁ (loop _ rfl))
end
end Mine
end
section
open PySem PySem.W PySem.Calls PyProof.Rows
set_option maxRecDepth 100000
namespace Mine
theorem fmod_lt {a b : Int} (h : 0 < b) : 0 ≤ a.fmod b ∧ a.fmod b < b := by
  rw [Int.fmod_eq_emod_of_nonneg _ (Int.le_of_lt h)]
  exact ⟨Int.emod_nonneg _ (by omega), Int.emod_lt_of_pos _ h⟩
theorem pow_ne {a : Int} (h : a ≠ 0) (n : Nat) : a ^ n ≠ 0 := by
  induction n with
  | zero => rw [Int.pow_zero]; decide
  | succ n ih => rw [Int.pow_succ]; exact Int.mul_ne_zero ih h
theorem pow_py {x a : Int} {n : Nat} (ha : a.natAbs ≤ 4) (hn : n ≤ 1000) : Builtin.divisionGoesByPylong x (a ^ n) = false := by
  refine PyProof.noPylong_of_log2 ?_
  rw [Int.natAbs_pow]
  by_cases h0 : a.natAbs ^ n = 0
  · rw [h0]; decide +kernel
  · refine (Nat.log2_lt h0).mpr ?_
    calc a.natAbs ^ n ≤ 4 ^ n := Nat.pow_le_pow_left ha n
      _ = 2 ^ (2 * n) := by rw [Nat.pow_mul]
      _ < 2 ^ 9000 := Nat.pow_lt_pow_right (by decide) (by omega)
section
variable {prog : Program} {w : World} {A : Around} {E : Value → Shared → Prop} {s : Shared}
end
end Mine
end
section
open PySem PySem.W PySem.Calls PyProof.Rows
set_option maxRecDepth 100000
namespace Mine
section
variable {prog : Program} {w : World} {A : Around} {E : Value → Shared → Prop} {s : Shared} {h₀ : Heap} {L : Addr} {m : Str → Option Value}
abbrev sliceO (vl vu : Value) : Obj := { cls := .type "slice", data := .fields #[vl, vu, .none] }
end
end Mine
end
section
open PySem PySem.W PySem.Calls PyProof.Rows
set_option maxRecDepth 100000
namespace Mine
section
variable {prog : Program} {w : World} {A : Around} {E : Value → Shared → Prop} {s : Shared} {h₀ : Heap} {L D : Addr} {m : Str → Option Value} {news news' : List (Addr × Obj)}
theorem append_own {vs : List Value} {n : Nat} {x : Value} {Q : Value → Shared → Prop} (F : Fr h₀ L s.heap m) (N : News h₀ L s.heap news) (U : Upd D (W.listOf vs.toArray n) (W.listOf (vs ++ [x]).toArray (n + 1)) news news') (hz : vs.length ≤ 2 ^ 20)
    (h : ∀ h', Fr h₀ L h' m → News h₀ L h' news' → Q .none { s with heap := h' }) : wpAny (model prog w) A (call (.builtin "list.append") [.ref D, x]) Q E s := by
  have e : (vs ++ [x]).toArray = vs.toArray.push x := by simp
  rw [e] at U
  exact append_K F N U h (by rw [sizeLine_eq, List.size_toArray]; omega)
theorem loadX_L {M : Model} {a : Addr} {cn : Str} {cs : Scope} {ccd : Value} {cl : List (Str × Addr)} {x : Str} {v : Value} {Q : Value → Shared → Prop} (F : Fr h₀ L s.heap m) (hv : m x = some v) (h : Q v s)
    (hk : cs.kind = .function := by rfl) (hx : (envX cn cs L a ccd cl).kindOf x = some .local := by rfl) :
    wpAny M A (loadName (envX cn cs L a ccd cl) x) Q E s := wpAny_loadName_local hk hx F.ns hv h
end
end Mine
end
section
open PySem PySem.W PySem.Calls PyProof.Rows
set_option maxRecDepth 100000
namespace Mine
abbrev okS (xs : List Str) : Prop := ∀ x ∈ xs, PyData.strOk x = true
theorem strs_canLay : ∀ {xs : List Str}, okS xs → PyData.canLayAll0 (xs.map PyData.str) = true
  | [], _ => by simp [PyData.canLayAll0]
  | x :: r, h => by
    have h1 := strs_canLay (xs := r) fun y hy => h y (List.mem_cons_of_mem _ hy)
    have h2 := h x List.mem_cons_self
    simp only [List.map_cons, PyData.canLayAll0, PyData.canLay0, h1, h2, Bool.and_self]
theorem strs_depth : ∀ xs : List Str, PyData.depthAll (xs.map PyData.str) = 0
  | [] => by simp [PyData.depthAll]
  | _ :: r => by simp [PyData.depthAll, PyData.depth, strs_depth r]
theorem strs_shaped {xs : List Str} (h : okS xs) : SeqAt.shaped (.list (xs.map PyData.str)) = true := by
  simp [SeqAt.shaped, PyData.canLay0, PyData.depth, strs_canLay h, strs_depth]
theorem strs_eqv : ∀ xs ys : List Str, PyData.eqvAll (xs.map PyData.str) (ys.map PyData.str) = decide (xs = ys)
  | [], [] => by simp [PyData.eqvAll]
  | [], _ :: _ => by simp [PyData.eqvAll]
  | _ :: _, [] => by simp [PyData.eqvAll]
  | a :: r, b :: q => by
    simp only [List.map_cons, PyData.eqvAll, PyData.eqv, strs_eqv r q]
    by_cases h : a = b <;> by_cases h' : r = q <;> simp [h, h']
theorem reads_strs {h : Heap} {a : Addr} {vs : List Value} {xs : List Str} (hl : h.IsList a vs.toArray) (hi : StrsAre vs xs) : Reads h (.ref a) (.list (xs.map PyData.str)) [a] := by
  obtain ⟨o, ho, hc, n, hd⟩ := hl
  exact Reads.list ho hc hd (by simpa using hi.reads h)
section
variable {prog : Program} {w : World} {A : Around} {E : Value → Shared → Prop} {s : Shared} {h₀ : Heap} {L : Addr} {m : Str → Option Value} {news : List (Addr × Obj)}
theorem ne_strsK {a b : Addr} {vs us : List Value} {xs ys : List Str} {Q : Value → Shared → Prop} (hl : s.heap.IsList a vs.toArray) (hi : StrsAre vs xs) (hl' : s.heap.IsList b us.toArray) (hi' : StrsAre us ys) (o1 : okS xs) (o2 : okS ys) (hu : A.units + 64 < cLine)
    (h : Q (.bool (!decide (xs = ys))) s) : wpAny (model prog w) A (compareOp .NotEq (.ref a) (.ref b)) Q E s :=
  ne_dataH (reads_strs hl hi) (reads_strs hl' hi') (strs_shaped o1) (strs_shaped o2) hu (by simp only [PyData.eqv]; rw [strs_eqv]; exact h)

/-- a slice of a list -/
theorem slice_K {value slice : PySem.Expr} {l : Addr} {vs : List Value} {vl vu : Value} {lo hi : Option Int} {tk : Nat} {hp : Heap} {Q : Value → Shared → Prop} (F : Fr h₀ L hp m) (N : News h₀ L hp news) (hl : hp.IsList l vs.toArray) (pl : IsPart vl lo) (pu : IsPart vu hi) (hz : vs.length ≤ 2 ^ 20)
    (h : ∀ D h', Fr h₀ L h' m → News h₀ L h' ((D, W.listOf (kms_pick vs lo hi).toArray 0) :: news) → (∀ p ∈ news, p.1 < D) → Q (.ref D) { s with heap := h', toks := tk })
    (hs : subscripted slice false (.ref l) (.ref hp.objs.size) = operate [.ref hp.objs.size, .ref l] (getItem (.ref l) (.ref hp.objs.size)) := by with_unfolding_all rfl) (ht : ∀ r, letTemporaryGo value (.ref l) r = pure () := by intro _; with_unfolding_all rfl) :
    wpAny (model prog w) A (subscriptTail value slice (.ref l) (.ref hp.objs.size)) Q E { s with heap := hp.push (sliceO vl vu), toks := tk } := by
  refine kmk_slice (s := { s with heap := hp, toks := tk }) F N hl pl pu (fun D h' F' N' l1 => h D h' F' ?_ l1) hs ht (by rw [sizeLine_eq, List.size_toArray]; omega)
  rw [kms_pick_eq] at N'
  exact N'
theorem pick_to {vs : List Value} {k : Int} (h0 : 0 ≤ k) : kms_pick vs none (some k) = vs.take k.toNat := by
  unfold kms_pick kms_lo kms_hi
  dsimp only
  rw [if_neg (by omega), List.drop_zero, Nat.sub_zero]
  by_cases h : k.toNat ≤ vs.length
  · rw [Nat.min_eq_left h]
  · rw [Nat.min_eq_right (by omega), List.take_length, List.take_of_length_le (by omega)]
end
end Mine
end
section
open PySem PySem.W PySem.Calls PyProof.Rows
set_option maxRecDepth 100000
namespace Mine
section
variable {M : Model} {A : Around} {E : Value → Shared → Prop} {s : Shared} {K : Frag} {h₀ : Heap} {L C : Addr} {m mg mb : Str → Option Value} {scope : Scope} {cl : List (Str × Addr)} {env : Env} {p : Program} {loose : List Str}
  {x : Str} {pos : Pos} {v : Value} {Q : Value → Shared → Prop}
theorem ldT_global (F : Fr h₀ L s.heap m) (X : K.In h₀) (T : TopRead p loose mg mb h₀) (e : nsIn K mainGlobals x = some (some v)) (h : Q v s) (hg : env.globals = mainGlobals := by rfl)
    (hk : (compEnvC scope cl C env).scope.kind = .function := by rfl) (hx : (compEnvC scope cl C env).kindOf x = some .globalImplicit := by rfl) (hd : (x == ("__debug__" : Str)) = false := by decide) :
    wpAny M A (eval (.Name x pos) (compEnvC scope cl C env)) Q E s :=
  Name_function_global hk hx (loadGlobal_global (env := compEnvC scope cl C env) (show s.heap.Ns env.globals mg from hg ▸ T.g.keeps F.keep) (mg_of X T.g e) h) hd
theorem ldT_built (F : Fr h₀ L s.heap m) (X : K.In h₀) (T : TopRead p loose mg mb h₀) (e : nsIn K mainGlobals x = some none) (hv : bootBuiltins x = some v) (hn : x ≠ "__name__") (h : Q v s) (hg : env.globals = mainGlobals := by rfl) (hb : env.builtins = builtinsNs := by rfl)
    (hk : (compEnvC scope cl C env).scope.kind = .function := by rfl) (hx : (compEnvC scope cl C env).kindOf x = some .globalImplicit := by rfl) (hd : (x == ("__debug__" : Str)) = false := by decide) :
    wpAny M A (eval (.Name x pos) (compEnvC scope cl C env)) Q E s :=
  Name_function_global hk hx (loadGlobal_builtin (env := compEnvC scope cl C env) (show s.heap.Ns env.globals mg from hg ▸ T.g.keeps F.keep) (mg_none_of X T.g e) (show s.heap.Ns env.builtins mb from hb ▸ T.b.keeps F.keep) ((T.builtins x hn).trans hv) h) hd
end
end Mine
end
section
open PySem PySem.W PySem.Calls PyProof.Rows
set_option maxRecDepth 100000
namespace Mine
section
variable {prog : Program} {w : World} {A : Around} {E : Value → Shared → Prop} {s : Shared} {h₀ : Heap} {L D : Addr} {m : Str → Option Value} {news pre post : List (Addr × Obj)}
end
end Mine
end
section
open PySem PySem.W PySem.Calls PyProof.Rows
set_option maxRecDepth 100000
namespace Mine
/-! a block of two clauses, the second one over what the first one's name holds -/
abbrev comp2 (elt t0 i0 t1 i1 : Expr) (scope : Scope) (pos : Pos) : Expr := .ListComp elt [⟨t0, i0, [], 0⟩, ⟨t1, i1, [], 0⟩] scope pos

theorem turn2_1 (elt t0 i0 t1 i1 : Expr) (scope : Scope) (pos : Pos) (it acc : Value) (env : Env) :
    compTurn (comp2 elt t0 i0 t1 i1 scope pos) 1 it acc env = (standAt i1.pos >>= fun _ => pyNext it >>= fun r => match r with
      | none => pure (.done .next)
      | some v => letOwnedTupleGo t1 it v >>= fun _ => assign t1 env v >>= fun _ =>
        (eval elt env >>= fun x => call (.builtin "list.append") [acc, x] >>= fun _ => pure ()) >>= fun _ =>
          again (.compLoop (comp2 elt t0 i0 t1 i1 scope pos) 1 it acc env)) := by rfl

theorem turn2_0 (elt t0 i0 t1 i1 : Expr) (scope : Scope) (pos : Pos) (it acc : Value) (env : Env) :
    compTurn (comp2 elt t0 i0 t1 i1 scope pos) 0 it acc env = (do
      standAt i0.pos
      match ← pyNext it with
      | none => pure (.done .next)
      | some v =>
        letOwnedTupleGo t0 it v
        assign t0 env v
        let x ← eval i1 env
        standAt i1.pos
        let x ← foldedSetIterable i1 env x
        let _ ← runOwn (.compStart (comp2 elt t0 i0 t1 i1 scope pos) 1 (← holding [x] (pyIter x)) acc env) env
        again (.compLoop (comp2 elt t0 i0 t1 i1 scope pos) 0 it acc env)) := by rfl

section
variable {prog : Program} {w : World} {A : Around} {E : Value → Shared → Prop} {R : Result → Shared → Prop} {s : Shared}
theorem start2_1 {elt t0 i0 t1 i1 : Expr} {scope : Scope} {pos : Pos} {it acc : Value} {env : Env}
    (h0 : codeAny (model prog w) A (.compLoop (comp2 elt t0 i0 t1 i1 scope pos) 1 it acc env) R s)
    (h : wpAny (model prog w) A (pyIter it) (fun it' s' => codeAny (model prog w) A (.compLoop (comp2 elt t0 i0 t1 i1 scope pos) 1 it' acc env) R s')
      (notedBy (model prog w) A env fun x s' => R (.error x) s') s) :
    codeAny (model prog w) A (.compStart (comp2 elt t0 i0 t1 i1 scope pos) 1 it acc env) R s := by
  refine codeAny_of_tree ?_
  show wpAny _ _ ((compStart (comp2 elt t0 i0 t1 i1 scope pos) 1 it acc env).onRaise (fun x => do noteFrame x env; standAt theWindowsPlace)) _ _ s
  refine wpAny_notedAt ?_
  unfold compStart
  show wpAny _ _ (ask >>= _) _ _ s
  refine wpAny_bind (wpAny_askSetting (wpAny_ite ?_))
  split
  · first
      | exact wpAny_bind (wpAny_pure (wpAny_pure (And.intro rfl h0)))
      | exact wpAny_pure (And.intro rfl h0)
  · first
      | exact wpAny_bind (wpAny_rule (wpAny_bind (wpAny_standAt (wpAny_bind (wpAny_mono h (fun it' s' h' => wpAny_pure (And.intro rfl h')) fun _ _ x => x)))))
      | (refine wpAny_bind (wpAny_rule ?_); show wpAny _ _ (standAt i1.pos >>= _) _ _ s; exact wpAny_bind (wpAny_standAt (wpAny_bind (wpAny_mono h (fun it' s' h' => wpAny_pure (And.intro rfl h')) fun _ _ x => x))))

theorem loop2_1 {elt t0 i0 t1 i1 : Expr} {scope : Scope} {pos : Pos} {it acc : Value} {env : Env} (I : Nat → Shared → Prop)
    (turn : ∀ n s, I n s → wpAny (model prog w) A (pyNext it) (fun r s₁ => match r with
      | none => R (.ok .next) s₁
      | some v => wpAny (model prog w) A (assign t1 env v) (fun _ s₂ => wpAny (model prog w) A (eval elt env) (fun x s₃ =>
          wpAny (model prog w) A (call (.builtin "list.append") [acc, x]) (fun _ s₄ => ∃ m, m < n ∧ I m s₄) F0 s₃) F0 s₂) F0 s₁) F0 s)
    (n : Nat) (h : I n s) (ht : ∀ v, letOwnedTupleGo t1 it v = pure () := by intro _; rfl) :
    codeAny (model prog w) A (.compLoop (comp2 elt t0 i0 t1 i1 scope pos) 1 it acc env) R s := by
  refine codeAny_loop rfl I (fun n s hI => ?_) n h
  show wpAny _ A ((compTurn (comp2 elt t0 i0 t1 i1 scope pos) 1 it acc env).onRaise (fun x => do noteFrame x env; theTreesLotGoes x)) _ _ s
  refine wpAny_noted ?_
  rw [turn2_1]
  refine wpAny_bind (wpAny_standAt (wpAny_bind (wpAny_mono (turn n s hI) (fun r s₁ h₁ => ?_) fun _ _ h' => h'.elim)))
  cases r with
  | none => exact wpAny_pure h₁
  | some v =>
    refine wpAny_bind (wpAny_of_eq (ht v) ?_)
    exact wpAny_bind (wpAny_mono h₁ (fun _ s₂ h₂ => wpAny_bind (wpAny_bind (wpAny_mono h₂ (fun x s₄ h₄ => wpAny_bind (wpAny_mono h₄ (fun _ s₅ h₅ => wpAny_pure (wpAny_pure ⟨rfl, h₅⟩)) fun _ _ h' => h'.elim)) fun _ _ h' => h'.elim))) fun _ _ h' => h'.elim)

theorem loop2_0 {elt t0 i0 t1 i1 : Expr} {scope : Scope} {pos : Pos} {it acc : Value} {env : Env} (I : Nat → Shared → Prop)
    (turn : ∀ n s, I n s → wpAny (model prog w) A (pyNext it) (fun r s₁ => match r with
      | none => R (.ok .next) s₁
      | some v => wpAny (model prog w) A (assign t0 env v) (fun _ s₂ => wpAny (model prog w) A (eval i1 env) (fun x s₃ =>
          wpAny (model prog w) A (pyIter x) (fun it' s₄ => codeAny (model prog w) A (.compStart (comp2 elt t0 i0 t1 i1 scope pos) 1 it' acc env) (fun r s₅ => match r with | .ok _ => ∃ m, m < n ∧ I m s₅ | .error _ => False) s₄) F0 s₃) F0 s₂) F0 s₁) F0 s)
    (n : Nat) (h : I n s) (hs : ∀ x, foldedSetIterable i1 env x = pure x) (ht : ∀ v, letOwnedTupleGo t0 it v = pure () := by intro _; rfl) :
    codeAny (model prog w) A (.compLoop (comp2 elt t0 i0 t1 i1 scope pos) 0 it acc env) R s := by
  refine codeAny_loop rfl I (fun n s hI => ?_) n h
  show wpAny _ A ((compTurn (comp2 elt t0 i0 t1 i1 scope pos) 0 it acc env).onRaise (fun x => do noteFrame x env; theTreesLotGoes x)) _ _ s
  refine wpAny_noted ?_
  rw [turn2_0]
  refine wpAny_bind (wpAny_standAt (wpAny_bind (wpAny_mono (turn n s hI) (fun r s₁ h₁ => ?_) fun _ _ h' => h'.elim)))
  cases r with
  | none => exact wpAny_pure h₁
  | some v =>
    refine wpAny_bind (wpAny_of_eq (ht v) ?_)
    refine wpAny_bind (wpAny_mono h₁ (fun _ s₂ h₂ => wpAny_bind (wpAny_mono h₂ (fun x s₃ h₃ => wpAny_bind (wpAny_standAt (wpAny_bind (wpAny_of_eq (hs x) (wpAny_bind (wpAny_holding (wpAny_mono h₃ (fun it' s₄ h₄ => ?_) fun _ _ h' => h'.elim))))))) fun _ _ h' => h'.elim)) fun _ _ h' => h'.elim)
    refine wpAny_bind (wpAny_runOwn ?_)
    rw [Around.mark_none]
    refine codeAny_mono h₄ fun r s₅ h₅ => ?_
    cases r with
    | ok f => exact wpAny_pure ⟨rfl, h₅⟩
    | error e => exact h₅.elim
end
end Mine
end
section
open PySem PySem.W PySem.Calls PyProof.Rows
set_option maxRecDepth 100000
namespace Mine
section
variable {prog : Program} {w : World} {A : Around} {E : Value → Shared → Prop} {R : Result → Shared → Prop} {s : Shared}
theorem inner2 {x : Str} {p1 p2 pos : Pos} {t0 i0 i1 : Expr} {scope : Scope} {cenv : Env} {I2 a D : Addr} {ys vs : List Value} {m : Str → Option Value}
    (hh : A.handled = none) (hk : cenv.scope.kind = .function) (hx : cenv.kindOf x = some .local) (hd : (x == ("__debug__" : Str)) = false)
    (hit : s.heap.IsListIter I2 a 0) (hl : s.heap.IsList a vs.toArray) (hD : s.heap.get? D = some (lstO ys)) (hn : s.heap.Ns cenv.locals m)
    (n1 : I2 ≠ D) (n2 : I2 ≠ cenv.locals) (n3 : D ≠ cenv.locals) (n4 : a ≠ I2) (n5 : a ≠ D) (n6 : a ≠ cenv.locals) (hsz : ys.length + vs.length ≤ sizeLine)
    (hR : ∀ h' tk m', h'.Ns cenv.locals m' → h'.get? D = some (lstO (ys ++ vs)) → (∀ b o, b ≠ I2 → b ≠ D → b ≠ cenv.locals → s.heap.get? b = some o → h'.get? b = some o) → R (.ok .next) { s with heap := h', toks := tk }) :
    codeAny (model prog w) A (.compLoop (comp2 (.Name x p1) t0 i0 (.Name x p2) i1 scope pos) 1 (.ref I2) (.ref D) cenv) R s := by
  have W := Walks.list (prog := prog) (w := w) hh I2 a n4 vs.toArray
  have hlen : vs.toArray.size = vs.length := by simp
  rw [hlen] at W
  have hp : (cenv.scope.kind == .class || (cenv.scope.kind == .module && cenv.locals != cenv.globals)) = false := by rw [hk]; rfl
  refine loop2_1 (fun k s' => ∃ h tk j m', s' = { s with heap := h, toks := tk } ∧ j ≤ vs.length ∧ k = vs.length + 1 - j ∧ h.IsListIter I2 a j ∧ h.IsList a vs.toArray ∧ h.get? D = some (lstO (ys ++ vs.take j)) ∧ h.Ns cenv.locals m' ∧
      (∀ b o, b ≠ I2 → b ≠ D → b ≠ cenv.locals → s.heap.get? b = some o → h.get? b = some o)) ?_ (vs.length + 1)
    ⟨s.heap, s.toks, 0, m, rfl, Nat.zero_le _, rfl, hit, hl, by rw [List.take_zero, List.append_nil]; exact hD, hn, fun _ _ _ _ _ e => e⟩
  rintro k s' ⟨h, tk, j, m', rfl, hj, rfl, hit', hl', hD', hn', hke⟩
  by_cases hlt : j < vs.length
  · refine W.item j _ _ _ hlt ⟨hit', hl'⟩ fun v h₂ tk₂ hPv st₂ hk₂ => ?_
    have off : ∀ b o, b ≠ I2 → h.get? b = some o → h₂.get? b = some o := fun b o hb e => hk₂ b o (by simpa using hb) e
    have hn₂ := hn'.at' fun o e => off _ o n2.symm e
    refine wpAny_assign_Name (wpAny_storeName_local hx hn₂ (fun h₃ hn₃ hs₃ => ?_) hp)
    refine wpAny_Name (wpAny_loadName_local hk hx hn₃ (v := v) (by simp) ?_) hd
    have hD₃ : h₃.get? D = some (lstO (ys ++ vs.take j)) := hs₃.extBut _ _ n3 (off _ _ n1.symm hD')
    have hys : (ys ++ vs.take j).length ≤ sizeLine := by rw [List.length_append, List.length_take]; omega
    refine append_at (hsz := by rw [List.size_toArray]; exact hys) hD₃ fun h₅ hs₅ hD₅ => ?_
    refine ⟨vs.length + 1 - (j + 1), by omega, h₅, _, j + 1, _, rfl, hlt, rfl, ?_, ?_, ?_, hn₃.sameBut hs₅ n3.symm, ?_⟩
    · exact (st₂.1.at fun o e => hs₃.extBut _ _ n2 e).at fun o e => hs₅.extBut _ _ n1 e
    · exact (st₂.2.at fun o e => hs₃.extBut _ _ n6 e).at fun o e => hs₅.extBut _ _ n5 e
    · rw [hD₅]
      have hv : vs[j]? = some v := by simpa using hPv
      rw [List.take_add_one, hv, Option.toList_some, ← List.append_assoc]
      exact congrArg some (LCg.lst_snoc _ _)
    · intro b o b1 b2 b3 e
      exact hs₅.extBut b o b2 (hs₃.extBut b o b3 (off b o b1 (hke b o b1 b2 b3 e)))
  · obtain rfl : j = vs.length := Nat.le_antisymm hj (Nat.not_lt.mp hlt)
    refine W.done _ _ _ ⟨hit', hl'⟩ fun h₂ tk₂ hk₂ => ?_
    have off : ∀ b o, b ≠ I2 → h.get? b = some o → h₂.get? b = some o := fun b o hb e => hk₂ b o (by simpa using hb) e
    refine hR h₂ tk₂ m' (hn'.at' fun o e => off _ o n2.symm e) ?_ fun b o b1 b2 b3 e => off b o b1 (hke b o b1 b2 b3 e)
    rw [List.take_length] at hD'
    exact off _ _ n1.symm hD'

theorem outer2 {x y : Str} {p1 p2 p3 p4 pos : Pos} {i0 : Expr} {scope : Scope} {cenv : Env} {I l D : Addr} {as : List Addr} {vss : List (List Value)} {m : Str → Option Value}
    (hh : A.handled = none) (hk : cenv.scope.kind = .function) (hx : cenv.kindOf x = some .local) (hy : cenv.kindOf y = some .local) (hd : (x == ("__debug__" : Str)) = false) (hd2 : (y == ("__debug__" : Str)) = false)
    (hit : s.heap.IsListIter I l 0) (hl : s.heap.IsList l (as.map Value.ref).toArray) (hD : s.heap.get? D = some (lstO [])) (hn : s.heap.Ns cenv.locals m)
    (hlen : as.length = vss.length) (hi : ∀ (i : Nat) (a : Addr) (vs : List Value), as[i]? = some a → vss[i]? = some vs → s.heap.IsList a vs.toArray ∧ a ≠ I ∧ a ≠ D ∧ a ≠ cenv.locals)
    (n1 : I ≠ D) (n2 : I ≠ cenv.locals) (n3 : D ≠ cenv.locals) (n4 : l ≠ I) (n5 : l ≠ D) (n6 : l ≠ cenv.locals) (hsz : vss.flatten.length ≤ sizeLine)
    (hR : ∀ h' tk m', h'.Ns cenv.locals m' → h'.get? D = some (lstO vss.flatten) → (∀ b o, b ≠ I → b ≠ D → b ≠ cenv.locals → s.heap.get? b = some o → h'.get? b = some o) → R (.ok .next) { s with heap := h', toks := tk }) :
    codeAny (model prog w) A (.compLoop (comp2 (.Name x p1) (.Name y p2) i0 (.Name x p3) (.Name y p4) scope pos) 0 (.ref I) (.ref D) cenv) R s := by
  have W := Walks.list (prog := prog) (w := w) hh I l n4 (as.map Value.ref).toArray
  have hsize : (as.map Value.ref).toArray.size = as.length := by simp
  rw [hsize] at W
  have hp : (cenv.scope.kind == .class || (cenv.scope.kind == .module && cenv.locals != cenv.globals)) = false := by rw [hk]; rfl
  refine loop2_0 (hs := fun x => rfl) (fun k s' => ∃ h tk j m', s' = { s with heap := h, toks := tk } ∧ j ≤ as.length ∧ k = as.length + 1 - j ∧ h.IsListIter I l j ∧ h.IsList l (as.map Value.ref).toArray ∧ h.get? D = some (lstO (vss.take j).flatten) ∧ h.Ns cenv.locals m' ∧
      (∀ b o, b ≠ I → b ≠ D → b ≠ cenv.locals → s.heap.get? b = some o → h.get? b = some o)) ?_ (as.length + 1)
    ⟨s.heap, s.toks, 0, m, rfl, Nat.zero_le _, rfl, hit, hl, hD, hn, fun _ _ _ _ _ e => e⟩
  rintro k s' ⟨h, tk, j, m', rfl, hj, rfl, hit', hl', hD', hn', hke⟩
  by_cases hlt : j < as.length
  · refine W.item j _ _ _ hlt ⟨hit', hl'⟩ fun v h₂ tk₂ hPv st₂ hk₂ => ?_
    have off : ∀ b o, b ≠ I → h.get? b = some o → h₂.get? b = some o := fun b o hb e => hk₂ b o (by simpa using hb) e
    have hn₂ := hn'.at' fun o e => off _ o n2.symm e
    obtain ⟨a, ha, rfl⟩ : ∃ a, as[j]? = some a ∧ v = .ref a := by
      have e : (as.map Value.ref)[j]? = some v := by simpa using hPv
      rw [List.getElem?_map, List.getElem?_eq_getElem hlt] at e
      exact ⟨_, List.getElem?_eq_getElem hlt, (Option.some.inj e).symm⟩
    have hvj : vss[j]? = some vss[j] := List.getElem?_eq_getElem (by omega)
    generalize vss[j] = vs at hvj
    obtain ⟨hla, a1, a2, a3⟩ := hi j a vs ha hvj
    refine wpAny_assign_Name (wpAny_storeName_local hy hn₂ (fun h₃ hn₃ hs₃ => ?_) hp)
    refine wpAny_Name (wpAny_loadName_local hk hy hn₃ (v := .ref a) (by simp) ?_) hd2
    have la₃ : h₃.IsList a vs.toArray := hla.at fun o e => hs₃.extBut _ _ a3 (off _ _ a1 (hke _ _ a1 a2 a3 e))
    have hD₃ : h₃.get? D = some (lstO (vss.take j).flatten) := hs₃.extBut _ _ n3 (off _ _ n1.symm hD')
    have hI₃ : h₃.IsListIter I l (j + 1) := st₂.1.at fun o e => hs₃.extBut _ _ n2 e
    have hl₃ : h₃.IsList l (as.map Value.ref).toArray := st₂.2.at fun o e => hs₃.extBut _ _ n6 e
    have hke₃ : ∀ b o, b ≠ I → b ≠ D → b ≠ cenv.locals → s.heap.get? b = some o → h₃.get? b = some o := fun b o b1 b2 b3 e => hs₃.extBut b o b3 (off b o b1 (hke b o b1 b2 b3 e))
    clear off hk₂ hn₂ hs₃ hke
    refine wpAny_pyIter_list la₃ ?_
    dsimp only
    have up : ∀ b o, h₃.get? b = some o → (h₃.push { cls := .type "list_iterator", data := .fields #[.ref a, .int 0 0] }).get? b = some o := fun b o e => Heap.get?_push_of_some _ e
    have hit4 : (h₃.push { cls := .type "list_iterator", data := .fields #[.ref a, .int 0 0] }).IsListIter h₃.objs.size a 0 := ⟨_, Heap.get?_push_size _ rfl, rfl, rfl⟩
    have ltD : D < h₃.objs.size := Heap.lt_size hD₃
    have ltI : I < h₃.objs.size := by obtain ⟨o, e, _⟩ := hI₃; exact Heap.lt_size e
    have lta : a < h₃.objs.size := by obtain ⟨o, e, _⟩ := la₃; exact Heap.lt_size e
    have ltC : cenv.locals < h₃.objs.size := hn₃.lt
    have loop : codeAny (model prog w) A (.compLoop (comp2 (.Name x p1) (.Name y p2) i0 (.Name x p3) (.Name y p4) scope pos) 1 (.ref h₃.objs.size) (.ref D) cenv)
        (fun r s₅ => match r with | .ok _ => ∃ m, m < as.length + 1 - j ∧ (∃ h tk j m', s₅ = { s with heap := h, toks := tk } ∧ j ≤ as.length ∧ m = as.length + 1 - j ∧ h.IsListIter I l j ∧ h.IsList l (as.map Value.ref).toArray ∧ h.get? D = some (lstO (vss.take j).flatten) ∧ h.Ns cenv.locals m' ∧
      (∀ b o, b ≠ I → b ≠ D → b ≠ cenv.locals → s.heap.get? b = some o → h.get? b = some o)) | .error _ => False)
        { s with heap := h₃.push { cls := .type "list_iterator", data := .fields #[.ref a, .int 0 0] }, toks := tk₂ + 1 } := by
      have hfl : (vss.take (j + 1)).flatten = (vss.take j).flatten ++ vs := by rw [List.take_add_one, hvj, Option.toList_some, List.flatten_append]; simp
      have hfz : (vss.take (j + 1)).flatten.length ≤ vss.flatten.length := by
        conv => rhs; rw [← List.take_append_drop (j + 1) vss]
        rw [List.flatten_append, List.length_append]; omega
      refine inner2 (s := { s with heap := h₃.push { cls := .type "list_iterator", data := .fields #[.ref a, .int 0 0] }, toks := tk₂ + 1 }) hh hk hx hd hit4 (la₃.at fun o e => up _ o e) (up _ _ hD₃) (hn₃.at' fun o e => up _ o e)
        (Nat.ne_of_gt ltD) (Nat.ne_of_gt ltC) n3 (Nat.ne_of_lt lta) a2 a3 ?_ fun h₆ tk₆ m₆ hn₆ hD₆ hk₆ => ?_
      · rw [hfl, List.length_append] at hfz; omega
      · refine ⟨as.length + 1 - (j + 1), by omega, h₆, tk₆, j + 1, m₆, rfl, hlt, rfl, ?_, ?_, by rw [hfl]; exact hD₆, hn₆, ?_⟩
        · exact hI₃.at fun o e => hk₆ _ _ (Nat.ne_of_lt ltI) n1 n2 (up _ _ e)
        · exact hl₃.at fun o e => hk₆ _ _ (Nat.ne_of_lt (Heap.lt_size e)) n5 n6 (up _ _ e)
        · intro b o b1 b2 b3 e
          have e3 := hke₃ b o b1 b2 b3 e
          exact hk₆ _ _ (Nat.ne_of_lt (Heap.lt_size e3)) b2 b3 (up _ _ e3)
    have W2 := Walks.list (prog := prog) (w := w) hh h₃.objs.size a (Nat.ne_of_lt lta) vs.toArray
    exact start2_1 loop (W2.self 0 _ _ _ ⟨hit4, la₃.at fun o e => up _ o e⟩ loop)
  · obtain rfl : j = as.length := Nat.le_antisymm hj (Nat.not_lt.mp hlt)
    refine W.done _ _ _ ⟨hit', hl'⟩ fun h₂ tk₂ hk₂ => ?_
    have off : ∀ b o, b ≠ I → h.get? b = some o → h₂.get? b = some o := fun b o hb e => hk₂ b o (by simpa using hb) e
    refine hR h₂ tk₂ m' (hn'.at' fun o e => off _ o n2.symm e) ?_ fun b o b1 b2 b3 e => off b o b1 (hke b o b1 b2 b3 e)
    rw [hlen, List.take_length] at hD'
    exact off _ _ n1.symm hD'
end

section
variable {prog : Program} {w : World} {A : Around} {s : Shared} {h₀ : Heap} {L : Addr} {m : Str → Option Value} {env : Env}
def CompRun2 (prog : Program) (w : World) (A : Around) (env : Env) (e : Expr) (scope : Scope) (cl : List (Str × Addr)) (E : Value → Shared → Prop) (RR : Value → Addr → Result → Shared → Prop) (it : Value) (s : Shared) : Prop :=
  wpAny (model prog w) A (newList []) (fun acc s₃ => wpAny (model prog w) A (newFunctionEnv scope env.globals cl [] env.qual none .none (some env)) (fun cenv s₄ =>
    codeAny (model prog w) A (.compStart e 0 it acc { cenv with scope := relabel scope env }) (RR acc cenv.locals) s₄) E s₃) E s

theorem Comp_ev2 {elt t0 i0 t1 i1 : Expr} {scope : Scope} {cl : List (Str × Addr)} {pos : Pos} {Q : Value → Shared → Prop} {E : Value → Shared → Prop}
    (hclos : closureFor scope env = pure cl) (hkind : scope.kind = .function) (hnames : ∀ y ∈ scope.names, y.2 = .local → scope.names.lookup y.1 = some .local)
    (h : wpAny (model prog w) A (eval i0 env) (fun xv s₁ => wpAny (model prog w) A (pyIter xv) (fun it s₂ => CompRun2 prog w A env (comp2 elt t0 i0 t1 i1 scope pos) scope cl E (fun acc C => compPost (model prog w) A E none Q acc C) it s₂) E s₁) E s)
    (hs : ∀ x, foldedSetIterable i0 env x = pure x := by intro _; rfl) :
    wpAny (model prog w) A (eval (comp2 elt t0 i0 t1 i1 scope pos) env) Q E s := by
  rw [eval_ListComp]
  exact wpAny_comprehension_free (use := none) rfl hs hclos hkind hnames h

/-- the lists of a list, one behind the other -/
theorem flat_J {x y : Str} {p1 p2 p3 p4 pos : Pos} {i0 : Expr} {scope : Scope} {cl : List (Str × Addr)} {Q : Value → Shared → Prop} {E : Value → Shared → Prop} {l : Addr} {as : List Addr} {vss : List (List Value)} {news : List (Addr × Obj)}
    (hh : A.handled = none) (hl : s.heap.IsList l (as.map Value.ref).toArray) (hlen : as.length = vss.length) (hi : ∀ (i : Nat) (a : Addr) (vs : List Value), as[i]? = some a → vss[i]? = some vs → s.heap.IsList a vs.toArray) (hsz : vss.flatten.length ≤ sizeLine)
    (F : Fr h₀ L s.heap m) (N : News h₀ L s.heap news)
    (h : ∀ D h' tk, Fr h₀ L h' m → News h₀ L h' ((D, lstO vss.flatten) :: news) → (∀ p ∈ news, p.1 ≠ D) → Q (.ref D) { s with heap := h', toks := tk })
    (hcell : ∀ y ∈ scope.names, y.2 ≠ .cell := by decide) (hkind : scope.kind = .function := by rfl) (hx : scope.names.lookup x = some .local := by rfl) (hy : scope.names.lookup y = some .local := by rfl)
    (hd : (x == ("__debug__" : Str)) = false := by decide) (hd2 : (y == ("__debug__" : Str)) = false := by decide) :
    wpAny (model prog w) A (pyIter (.ref l)) (fun it s₂ => CompRun2 prog w A env (comp2 (.Name x p1) (.Name y p2) i0 (.Name x p3) (.Name y p4) scope pos) scope cl E (fun acc C => compPost (model prog w) A E none Q acc C) it s₂) E s := by
  refine wpAny_pyIter_list hl ?_
  unfold CompRun2
  refine wpAny_newObj_type (wpAny_newFunctionEnv hcell (by intro y hy; simp at hy) (fun h₁ hns₁ hsb₁ => ?_) hkind)
  dsimp only at hns₁ hsb₁ ⊢
  generalize hH1 : s.heap.push { cls := .type "list_iterator", data := .fields #[.ref l, .int 0 0] } = H1 at hns₁ hsb₁ ⊢
  have hDs : H1.objs.size = s.heap.objs.size + 1 := by rw [← hH1, Heap.size_push]
  generalize hH2 : H1.push { cls := .type "list", dict := none, data := .seq ([] : List Value).toArray } = H2 at hns₁ hsb₁ ⊢
  have hCs : H2.objs.size = s.heap.objs.size + 2 := by rw [← hH2, Heap.size_push, hDs]
  have n1 : s.heap.objs.size ≠ H1.objs.size := by rw [hDs]; exact Nat.ne_of_lt (Nat.lt_succ_self _)
  have n3 : H1.objs.size ≠ H2.objs.size := by rw [hDs, hCs]; exact Nat.ne_of_lt (Nat.lt_succ_self _)
  have n2 : s.heap.objs.size ≠ H2.objs.size := by rw [hCs]; exact Nat.ne_of_lt (Nat.lt_succ_of_lt (Nat.lt_succ_self _))
  have below : ∀ b, b < s.heap.objs.size → b ≠ s.heap.objs.size ∧ b ≠ H1.objs.size ∧ b ≠ H2.objs.size := fun b hb =>
    ⟨Nat.ne_of_lt hb, by rw [hDs]; exact Nat.ne_of_lt (Nat.lt_succ_of_lt hb), by rw [hCs]; exact Nat.ne_of_lt (Nat.lt_succ_of_lt (Nat.lt_succ_of_lt hb))⟩
  have old : ∀ b o, s.heap.get? b = some o → h₁.get? b = some o := fun b o e =>
    hsb₁.extBut b o (below b (Heap.lt_size e)).2.2 (Heap.get?_push_of_some _ (hH2 ▸ Heap.get?_push_of_some _ (hH1 ▸ Heap.get?_push_of_some _ e)))
  have hit : h₁.IsListIter s.heap.objs.size l 0 :=
    ⟨_, hsb₁.extBut _ _ n2 (Heap.get?_push_of_some _ (hH2 ▸ Heap.get?_push_of_some _ (hH1 ▸ Heap.get?_push_size _ rfl))), rfl, rfl⟩
  have hacc : h₁.get? H1.objs.size = some (lstO []) := hsb₁.extBut _ _ n3 (Heap.get?_push_of_some _ (hH2 ▸ Heap.get?_push_size _ rfl))
  have fresh₀ : ∀ a, s.heap.objs.size ≤ a → h₀.get? a = none := fun a ha => by
    cases e : h₀.get? a with
    | none => rfl
    | some o' => exact absurd (Heap.lt_size (F.keep a o' e)) (Nat.not_lt.mpr ha)
  have hLlt : L < s.heap.objs.size := F.ns.lt
  have hl₁ : h₁.IsList l (as.map Value.ref).toArray := hl.at fun o e => old _ o e
  have ltl : l < s.heap.objs.size := by obtain ⟨o, e, _⟩ := hl; exact Heap.lt_size e
  have loop : ∀ s₃ : Shared, s₃ = { s with heap := h₁, toks := s.toks + ([] : List (Str × Value)).length } →
      codeAny (model prog w) A (.compLoop (comp2 (.Name x p1) (.Name y p2) i0 (.Name x p3) (.Name y p4) scope pos) 0 (.ref s.heap.objs.size) (.ref H1.objs.size) (compEnvC scope cl H2.objs.size env))
        (fun r s' => compPost (model prog w) A E none Q (.ref H1.objs.size) H2.objs.size r s') s₃ := by
    rintro s₃ rfl
    refine outer2 (cenv := compEnvC scope cl H2.objs.size env) hh (by simp [compEnvC, relabel, hkind]) (lookup_relabel_local hx) (lookup_relabel_local hy) hd hd2 hit hl₁ hacc hns₁ hlen
      (fun i a vs ha hv => ?_) n1 n2 n3 (below l ltl).1 (below l ltl).2.1 (below l ltl).2.2 hsz fun h' tk m' hn' hD' hk' => ?_
    · have z := hi i a vs ha hv
      obtain ⟨o, e, r⟩ := z
      have lta := Heap.lt_size e
      exact ⟨⟨o, old _ _ e, r⟩, (below a lta).1, (below a lta).2.1, (below a lta).2.2⟩
    · refine ⟨m', hn', fun h'' hs'' => ?_⟩
      have k'' : ∀ b o, s.heap.get? b = some o → h''.get? b = some o := fun b o e => by
        have bb := below b (Heap.lt_size e)
        exact hs''.extBut b o bb.2.2 (hk' b o bb.1 bb.2.1 bb.2.2 (old b o e))
      refine h _ h'' tk (F.keeps k'') (fun p hp => ?_) fun p hp => (below _ (Heap.lt_size (N p hp).1)).2.1
      rcases List.mem_cons.mp hp with rfl | hp
      · exact ⟨hs''.extBut _ _ n3 hD', Ne.symm (below L hLlt).2.1, fresh₀ _ (by rw [hDs]; exact Nat.le_succ _)⟩
      · exact ⟨k'' _ _ (N p hp).1, (N p hp).2⟩
  have W := Walks.list (prog := prog) (w := w) hh s.heap.objs.size l (below l ltl).1 (as.map Value.ref).toArray
  exact codeAny_compStart_list (loop _ rfl) (W.self 0 _ _ _ ⟨hit, hl₁⟩ (loop _ rfl))
end
end Mine
end
section
namespace Mine
section
variable {α : Type} [DecidableEq α]

/-- k is the length of a shorter beginning of the first j that ends them -/
def isB (w : List α) (j k : Nat) : Bool := decide (w.take k = (w.take j).drop (j - k))

def lb (w : List α) (j : Nat) : Nat := ((List.range j).filter (isB w j)).foldr max 0

theorem foldr_max_ge : ∀ (l : List Nat) (x : Nat), x ∈ l → x ≤ l.foldr max 0
  | a :: r, x, h => by
    simp only [List.foldr_cons]
    rcases List.mem_cons.mp h with rfl | h
    · exact Nat.le_max_left _ _
    · exact Nat.le_trans (foldr_max_ge r x h) (Nat.le_max_right _ _)
theorem foldr_max_mem : ∀ (l : List Nat), l ≠ [] → l.foldr max 0 ∈ l
  | [a], _ => by simp
  | a :: b :: r, _ => by
    have ih := foldr_max_mem (b :: r) (by simp)
    show max a ((b :: r).foldr max 0) ∈ _
    by_cases h : a ≤ (b :: r).foldr max 0
    · rw [Nat.max_eq_right h]; exact List.mem_cons_of_mem _ ih
    · rw [Nat.max_eq_left (by omega)]; exact List.mem_cons_self

theorem isB_zero (w : List α) (j : Nat) : isB w j 0 = true := by
  simp [isB, List.drop_of_length_le (List.length_take_le j w)]

theorem lb_mem (w : List α) {j : Nat} (hj : 0 < j) : lb w j < j ∧ isB w j (lb w j) = true := by
  have h0 : 0 ∈ (List.range j).filter (isB w j) := by simp [hj, isB_zero]
  have := foldr_max_mem ((List.range j).filter (isB w j)) (by intro e; rw [e] at h0; cases h0)
  rw [List.mem_filter, List.mem_range] at this
  exact this
theorem lb_ge (w : List α) {j k : Nat} (hk : k < j) (h : isB w j k = true) : k ≤ lb w j :=
  foldr_max_ge _ _ (by rw [List.mem_filter, List.mem_range]; exact ⟨hk, h⟩)
theorem lb_eq {w : List α} {j k : Nat} (hk : k < j) (h : isB w j k = true) (hm : ∀ b, b < j → isB w j b = true → b ≤ k) : lb w j = k := by
  have h1 := lb_mem w (j := j) (by omega)
  exact Nat.le_antisymm (hm _ h1.1 h1.2) (lb_ge w hk h)

/-- by places -/
theorem isB_iff {w : List α} {j k : Nat} (hj : j ≤ w.length) (hk : k ≤ j) : isB w j k = true ↔ ∀ i, i < k → w[i]? = w[j - k + i]? := by
  unfold isB
  rw [decide_eq_true_eq]
  constructor
  · intro e i hi
    have h1 : (w.take k)[i]? = ((w.take j).drop (j - k))[i]? := by rw [e]
    rw [List.getElem?_take, if_pos hi, List.getElem?_drop, List.getElem?_take, if_pos (by omega)] at h1
    exact h1
  · intro h
    apply List.ext_getElem?
    intro i
    rw [List.getElem?_take, List.getElem?_drop, List.getElem?_take]
    by_cases hi : i < k
    · rw [if_pos hi, if_pos (by omega)]; exact h i hi
    · rw [if_neg hi, if_neg (by omega)]

theorem isB_trans {w : List α} {j b c : Nat} (hj : j ≤ w.length) (hb : b ≤ j) (hc : c ≤ b) (h1 : isB w j b = true) (h2 : isB w b c = true) : isB w j c = true := by
  rw [isB_iff hj (by omega)]
  rw [isB_iff hj hb] at h1
  rw [isB_iff (by omega) hc] at h2
  intro i hi
  rw [h2 i hi, h1 (b - c + i) (by omega)]
  congr 1; omega
theorem isB_sub {w : List α} {j b c : Nat} (hj : j ≤ w.length) (hb : b ≤ j) (hc : c ≤ b) (h1 : isB w j b = true) (h2 : isB w j c = true) : isB w b c = true := by
  rw [isB_iff hj hb] at h1
  rw [isB_iff hj (by omega)] at h2
  rw [isB_iff (by omega) hc]
  intro i hi
  rw [h2 i hi, h1 (b - c + i) (by omega)]
  congr 1; omega
theorem isB_succ {w : List α} {j b : Nat} (hj : j < w.length) (hb : b < j) : isB w (j + 1) (b + 1) = true ↔ isB w j b = true ∧ w[b]? = w[j]? := by
  rw [isB_iff (by omega) (by omega), isB_iff (by omega) (by omega)]
  constructor
  · intro h
    refine ⟨fun i hi => ?_, ?_⟩
    · rw [h i (by omega)]; congr 1; omega
    · rw [h b (by omega)]; congr 1; omega
  · rintro ⟨h1, h2⟩ i hi
    by_cases e : i = b
    · subst e; rw [h2]; congr 1; omega
    · rw [h1 i (by omega)]; congr 1; omega

/-- what holds of the place that the inner loop looks at -/
structure Cand (w : List α) (i idx : Nat) : Prop where
  lt : idx < i
  b : isB w i idx = true
  top : ∀ b, b + 1 < i + 1 → isB w (i + 1) (b + 1) = true → b ≤ idx

theorem Cand.start {w : List α} {i : Nat} (hi : 0 < i) (hl : i < w.length) : Cand w i (lb w i) := by
  have h := lb_mem w hi
  exact ⟨h.1, h.2, fun b hb hB => lb_ge w (by omega) ((isB_succ hl (by omega)).mp hB).1⟩
theorem Cand.down {w : List α} {i idx : Nat} (hl : i < w.length) (c : Cand w i idx) (h0 : idx ≠ 0) (hne : w[i]? ≠ w[idx]?) : Cand w i (lb w idx) := by
  have h := lb_mem w (j := idx) (by omega)
  have := c.lt
  refine ⟨by omega, isB_trans (by omega) (by omega) (by omega) c.b h.2, fun b hb hB => ?_⟩
  have h1 := c.top b hb hB
  obtain ⟨h2, h3⟩ := (isB_succ hl (by omega)).mp hB
  have hne' : b ≠ idx := by rintro rfl; exact hne h3.symm
  exact lb_ge w (by omega) (isB_sub (by omega) (by omega) (by omega) c.b h2)
theorem Cand.stop {w : List α} {i : Nat} (hl : i < w.length) (c : Cand w i 0) (hne : w[i]? ≠ w[0]?) : lb w (i + 1) = 0 := by
  refine lb_eq (by omega) (isB_zero _ _) fun b hb hB => ?_
  cases b with
  | zero => exact Nat.le_refl _
  | succ b =>
    have h1 := c.top b (by omega) hB
    have : b = 0 := by omega
    subst this
    obtain ⟨_, h3⟩ := (isB_succ hl (by omega)).mp hB
    exact absurd h3.symm hne
theorem Cand.found {w : List α} {i idx : Nat} (hl : i < w.length) (c : Cand w i idx) (he : w[i]? = w[idx]?) : lb w (i + 1) = idx + 1 := by
  have := c.lt
  refine lb_eq (by omega) ((isB_succ hl this).mpr ⟨c.b, he.symm⟩) fun b hb hB => ?_
  cases b with
  | zero => omega
  | succ b => have := c.top b (by omega) hB; omega
theorem lb_one (w : List α) : lb w 1 = 0 := by
  have := (lb_mem w (j := 1) (by omega)).1
  omega

/-- the table as far as it stands -/
def tabI (w : List α) (k : Nat) : List Int := (List.range w.length).map fun j => if j < k then (lb w (j + 1) : Int) else 0
theorem tabI_length (w : List α) (k : Nat) : (tabI w k).length = w.length := by simp [tabI]
theorem tabI_get {w : List α} {k j : Nat} (hj : j < w.length) : (tabI w k)[j]? = some (if j < k then (lb w (j + 1) : Int) else 0) := by
  simp [tabI, hj]
theorem tabI_start (w : List α) : tabI w 1 = List.replicate w.length 0 := by
  apply List.ext_getElem?
  intro j
  by_cases h : j < w.length
  · rw [tabI_get h, List.getElem?_replicate, if_pos h]
    by_cases h1 : j < 1
    · have : j = 0 := by omega
      subst this; simp [lb_one]
    · rw [if_neg h1]
  · rw [List.getElem?_eq_none (by simp [tabI]; omega), List.getElem?_eq_none (by simp; omega)]
theorem tabI_set {w : List α} {k : Nat} (hk : k < w.length) {v : Int} (hv : v = lb w (k + 1)) : (tabI w k).set k v = tabI w (k + 1) := by
  apply List.ext_getElem?
  intro j
  rw [List.getElem?_set]
  by_cases h : j < w.length
  · rw [tabI_get h, tabI_get h]
    by_cases e : k = j
    · subst e; rw [if_pos rfl, if_pos (by rw [tabI_length]; exact h), if_pos (by omega), hv]
    · rw [if_neg e]
      by_cases h1 : j < k
      · rw [if_pos h1, if_pos (by omega)]
      · rw [if_neg h1, if_neg (by omega)]
  · rw [List.getElem?_eq_none (l := tabI w k) (by rw [tabI_length]; omega), List.getElem?_eq_none (l := tabI w (k + 1)) (by rw [tabI_length]; omega)]
    split
    · rw [if_neg (by rw [tabI_length]; omega)]
    · rfl
/-- the whole table -/
def tabF (w : List α) : List Int := (List.range w.length).map fun j => (lb w (j + 1) : Int)
theorem tabI_full {w : List α} {k : Nat} (hk : w.length ≤ k) : tabI w k = tabF w := by
  apply List.map_congr_left
  intro j hj
  rw [List.mem_range] at hj
  rw [if_pos (by omega)]
end
end Mine
end
open PySem PySem.W PySem.Calls PyProof.Rows Mine
local macro_rules | `(tactic| walk_at $s:str) => `(tactic| k_extra $s)
local macro_rules | `(tactic| k_all) => `(tactic| first | exact List.forall_mem_nil _ | (refine' List.forall_mem_cons.mpr ⟨?a, ?b⟩; (case a => ((refine neN ?_); (try dsimp only); first | assumption | (refine Ne.symm ?_; assumption) | omega)); (case b => k_all)) | with_reducible assumption)
local macro_rules | `(tactic| k_upd) => `(tactic| first | (refine' Upd.head ?a; (case a => k_all)) | (refine' Upd.tail ?a ?b; (case a => ((refine neN ?_); (try dsimp only); first | assumption | (refine Ne.symm ?_; assumption) | omega)); (case b => k_upd)))
section
open PySem PySem.W PySem.Calls PyProof.Rows Mine
set_option Elab.async false
set_option maxRecDepth 100000
set_option maxHeartbeats 4000000
namespace Mine
structure IsEntry (w : World) (h : Heap) (x : Addr) (ags rls : List Value) : Prop where
  out : ∃ dx l1 l2 n1 n2 t1 t2 t3 t4, h.get? x = some (instObj 66 dx) ∧ h.get? dx = some (entryD w (.ref l1) (.ref l2) .none .none t1 t2 t3 t4) ∧ h.get? l1 = some (W.listOf ags.toArray n1) ∧ h.get? l2 = some (W.listOf rls.toArray n2)

/-- objects of h that g had not -/
def Fresh (g h : Heap) (fz : List (Addr × Obj)) : Prop := ∀ p ∈ fz, h.get? p.1 = some p.2 ∧ g.get? p.1 = none
theorem Fresh.news {h₀ g h : Heap} {L : Addr} {m : Str → Option Value} {fz news : List (Addr × Obj)} (f : Fresh g h fz) (F : Fr h₀ L g m) (N : News h₀ L h news) : News h₀ L h (fz ++ news) := by
  intro p hp
  rcases List.mem_append.mp hp with hp | hp
  · obtain ⟨a, b⟩ := f p hp
    refine ⟨a, fun q => ?_, ?_⟩
    · obtain ⟨oL, _, _, hL, _⟩ := F.ns
      rw [q, hL] at b; cases b
    · cases q : h₀.get? p.1 with
      | none => rfl
      | some o => rw [F.keep _ _ q] at b; cases b
  · exact N p hp
theorem Fresh.ne {g h : Heap} {fz : List (Addr × Obj)} (f : Fresh g h fz) {p : Addr × Obj} (hp : p ∈ fz) {a : Addr} {o : Obj} (e : g.get? a = some o) : p.1 ≠ a := fun q => by
  have := (f p hp).2
  rw [q, e] at this; cases this
theorem Fresh.of_news {h₀ h : Heap} {L : Addr} {news fz : List (Addr × Obj)} (N : News h₀ L h news) (hs : ∀ p ∈ fz, p ∈ news) : Fresh h₀ h fz := fun p hp => ⟨(N p (hs p hp)).1, (N p (hs p hp)).2.2⟩
theorem Fresh.four {h₀ h : Heap} {L : Addr} {news : List (Addr × Obj)} {a b c d : Addr × Obj} (N : News h₀ L h news) (ha : a ∈ news) (hb : b ∈ news) (hc : c ∈ news) (hd : d ∈ news) : Fresh h₀ h [a, b, c, d] := by
  refine Fresh.of_news N fun p hp => ?_
  simp only [List.mem_cons, List.not_mem_nil, or_false] at hp
  rcases hp with rfl | rfl | rfl | rfl <;> assumption
theorem Fresh.one {h₀ h : Heap} {L : Addr} {news : List (Addr × Obj)} {a : Addr × Obj} (N : News h₀ L h news) (ha : a ∈ news) : Fresh h₀ h [a] :=
  Fresh.of_news N fun p hp => List.mem_singleton.mp hp ▸ ha
structure IsEntryN (w : World) (g h : Heap) (x : Addr) (ags rls : List Value) : Prop where
  out : ∃ dx l1 l2 n1 n2 t1 t2 t3 t4, Fresh g h [(x, instObj 66 dx), (dx, entryD w (.ref l1) (.ref l2) .none .none t1 t2 t3 t4), (l1, W.listOf ags.toArray n1), (l2, W.listOf rls.toArray n2)]
theorem instAt_ext {h₀ h : Heap} {x C dx : Addr} {od : Obj} {sl : Array (Option Value)} (I : W.InstAt h₀ x ⟨.ref C, some dx, .plain, sl⟩ C (some od)) (F : Ext h₀ h) : W.InstAt h x ⟨.ref C, some dx, .plain, sl⟩ C (some od) :=
  ⟨F _ _ I.at_, I.cls, I.no, F _ _ I.dict⟩
theorem instAt_keep {h₀ h : Heap} {L x C dx : Addr} {m : Str → Option Value} {od : Obj} {sl : Array (Option Value)} (I : W.InstAt h₀ x ⟨.ref C, some dx, .plain, sl⟩ C (some od)) (F : Fr h₀ L h m) : W.InstAt h x ⟨.ref C, some dx, .plain, sl⟩ C (some od) := instAt_ext I F.keep
theorem instAt_mk {h : Heap} {x C dx : Addr} {od : Obj} (h1 : h.get? x = some (instObj C dx)) (h2 : h.get? dx = some od) : W.InstAt h x (instObj C dx) C (some od) := ⟨h1, rfl, rfl, h2⟩

local macro_rules | `(tactic| k_inst) => `(tactic| exact instAt_keep (by assumption) (by k_asm))

theorem merge_spec (w : World) (mg mb : Str → Option Value) : PySem.Challenge.rw_wn0034_02.row.prog = pr1 → ∀ s : Shared, (hd2.heap_39 w.params).In s.heap → TR1 mg mb s.heap →
    ∀ (x y : Addr) (a1 r1 a2 r2 : List Value) (as1 as2 : List Str), IsEntry w s.heap x a1 r1 → IsEntry w s.heap y a2 r2 → StrsAre a1 as1 → StrsAre a2 as2 → a1.length ≤ 2 ^ 20 → a2.length + 1 < scanBound → r1.length + r2.length ≤ 2 ^ 20 →
    Fn 20 pr1 w 77 [.ref x, .ref y] (fun v h => ∃ z, v = .ref z ∧ IsEntryN w s.heap h z (a1.filter (keepS fun k => decide (k ∈ as2))) (r1 ++ r2)) s := by
  k_with_none
  k_with "call ref" => refine Halt.out ?_
  k_with "call type:set" => refine Halt.out ?_
  k_with "call type:set cons nil" => refine Halt.out ?_
  k_with "call type:filter" => refine Halt.out ?_
  k_with "call type:filter cons nil" => refine Halt.out ?_
  k_with "call type:list cons nil" => refine Halt.out ?_
  k_with "eval Name" => (k_here; k_dflt (refine nameX_L (by k_asm) (by assumption) ?_; k_whole))
  k_fill
  intro _ s X T x y a1 r1 a2 r2 as1 as2 ex ey hs1 hs2 hb1 hb2 hb3
  k_dflt (refine' Fn.of_body (binds := [(Str.ofString "e1", .ref x), (Str.ofString "e2", .ref y)]) (K := hd2.heap_39 w.params) X T.nolimit ?k1 ?k2 ?k3 ?k4 ?_ ?c1 ?c2 ?c3 ?c4)
  case k1 => k_is
  case k2 => k_is
  case k3 => exact BindsTo.of_eq rfl
  case k4 => exact locs rfl
  case c1 => exact rfl
  case c2 => exact rfl
  case c3 => exact rfl
  case c4 => decide
  intro dp un fr gd L h₁ hdp hun F
  have N : News s.heap L h₁ [] := News.nil
  obtain ⟨dx, lx1, lx2, nx1, nx2, tx1, tx2, tx3, tx4, ex1, ex2, ex3, ex4⟩ := ex
  obtain ⟨dy, ly1, ly2, ny1, ny2, ty1, ty2, ty3, ty4, ey1, ey2, ey3, ey4⟩ := ey
  have Ix : InstAt s.heap x (instObj 66 dx) 66 (some (entryD w (.ref lx1) (.ref lx2) .none .none tx1 tx2 tx3 tx4)) := instAt_mk ex1 ex2
  have Iy : InstAt s.heap y (instObj 66 dy) 66 (some (entryD w (.ref ly1) (.ref ly2) .none .none ty1 ty2 ty3 ty4)) := instAt_mk ey1 ey2
  (try dsimp only)
  k_unmd
  k_fold
  k_steps
  refine ⟨?_⟩
  refine entry_new w rfl mg mb _ _ _ _ _ _ _ rfl ?_ ?_ (by assumption) (by assumption) X T ?_
  · simp only; omega
  · simp only; omega
  intro z dz l1 l2 h2 tk2 t1 t2 t3 t4 F2 N2 hl0 hl1 hl2 hl3
  k_lt2 hl1
  k_lt2 hl2
  k_lt2 hl3
  dsimp only
  k_steps
  refine ⟨?_⟩
  rename Fr _ _ _ _ => F3
  rename News _ _ _ _ => N3
  refine set_K rfl ((listO_is ey3).at fun o e => F3.keep _ o e) hs2 hb2 fun h4 tk4 S4 n4 hk4 hS4 => ?_
  refine contains_K hS4 fun h5 tk5 mw5 hk5 hm5 => ?_
  have F5 := (F3.keeps hk4).keeps hk5
  have N5 := (N3.grown hk4).grown hk5
  have hS5 := SetOf.keep hS4 fun o e => hk5 _ o e
  clear F3 N3
  dsimp only
  k_steps
  refine ⟨?_⟩
  refine filter_K ((listO_is ex3).at fun o e => F5.keep _ o e) hm5 hS5 fun h6 tk6 Fo I hk6 hI6 hf6 => ?_
  k_steps
  refine ⟨?_⟩
  refine list_filter_K rfl hs1 hb1 hf6 hk6 hI6 fun h7 tk7 D c7 hk7 hD7 hlt7 hn7 => ?_
  have F7 := F5.keeps hk7
  have N7 := news_add F5 (N5.grown hk7) hD7 hn7
  have d1 := ltN (hlt7 z _ (N5.get (.head _)))
  have d2 := ltN (hlt7 dz _ (N5.get (.tail _ (.head _))))
  have d3 := ltN (hlt7 l1 _ (N5.get (.tail _ (.tail _ (.head _)))))
  have d4 := ltN (hlt7 l2 _ (N5.get (.tail _ (.tail _ (.tail _ (.head _))))))
  clear F5 N5
  k_steps
  rename Fr _ _ _ _ => F8
  rename News _ _ _ _ => N8
  refine add_K F8 N8 ((listO_is ex4).at fun o e => F8.keep _ o e) ((listO_is ey4).at fun o e => F8.keep _ o e) (by omega) fun D2 h9 F9 N9 lt9 => ?_
  clear F8 N8
  k_lt lt9
  k_steps
  rename Fr _ _ _ _ => FE
  rename News _ _ _ _ => NE
  exact Back.intro FE ⟨z, rfl, ⟨dz, D, D2, c7, 0, _, _, _, _, Fresh.four NE (.tail _ (.tail _ (.head _))) (.tail _ (.tail _ (.tail _ (.head _)))) (.tail _ (.head _)) (.head _)⟩⟩
end Mine
end
section
open PySem PySem.W PySem.Calls PyProof.Rows
set_option maxRecDepth 100000
namespace Mine
/-- a text by its signs -/
abbrev S (xs : List Nat) : Str := ⟨xs.toArray⟩
theorem S_len (xs : List Nat) : (S xs).length = xs.length := by simp [S, Str.length]
theorem S_list (xs : List Nat) : (S xs).cps.toList = xs := by simp [S]
theorem S_inj {xs ys : List Nat} (h : S xs = S ys) : xs = ys := by
  have := congrArg (fun s : Str => s.cps.toList) h
  simpa [S] using this
theorem S_eq (xs ys : List Nat) : (S xs == S ys) = decide (xs = ys) := by
  by_cases h : xs = ys
  · subst h; simp
  · rw [decide_eq_false h]; exact beq_eq_false_iff_ne.mpr fun e => h (S_inj e)
theorem S_append (xs ys : List Nat) : S xs ++ S ys = S (xs ++ ys) := by
  apply Str.ext'
  rw [Str.cps_append]
  simp [S]
theorem S_of (x : Str) : x = S x.cps.toList := by
  apply Str.ext'; simp [S]
theorem item_eq {xs : List Nat} {k : Int} (h0 : 0 ≤ k) (h1 : k < xs.length) : Txt.item (S xs) k = S [xs.getD k.toNat 0] := by
  obtain ⟨j, rfl⟩ := Int.eq_ofNat_of_zero_le h0
  have hj : j < xs.length := by omega
  unfold Txt.item Txt.charAt
  rw [S_len]
  have : seqIndex? ((j : Nat) : Int) xs.length = some j := by
    unfold seqIndex?
    simp
    omega
  rw [this]
  simp [S, hj]
section
variable {prog : Program} {w : World} {A : Around} {E : Value → Shared → Prop} {s : Shared} {xs ys : List Nat} {t u : Tok} {Q : Value → Shared → Prop} {h₀ : Heap} {L : Addr} {m : Str → Option Value} {news : List (Addr × Obj)}
theorem len_S (hb : xs.length ≤ 2 ^ 20) (h : ∀ t k, Q (.int xs.length t) { s with toks := k }) : wpAny (model prog w) A (call (.builtin "len") [.str (S xs) t]) Q E s :=
  len_str (by rw [S_len]; omega) (by rw [S_len]; exact h _ _)
theorem item_S {value slice : PySem.Expr} {k : Int} (h0 : 0 ≤ k) (h1 : k < xs.length) (hb : xs.length ≤ 2 ^ 20) (h : ∀ t j, Q (.str (S [xs.getD k.toNat 0]) t) { s with toks := j })
    (hs : subscripted slice false (.str (S xs) t) (.int k u) = operate [.str (S xs) t, .int k u] (getItem (.str (S xs) t) (.int k u)) := by with_unfolding_all rfl)
    (ht : ∀ r, letTemporaryGo value (.str (S xs) t) r = pure () := by intro _; with_unfolding_all rfl) :
    wpAny (model prog w) A (subscriptTail value slice (.str (S xs) t) (.int k u)) Q E s := by
  refine item_str (fitsSsize_of (N := 9223372036854775808) (by omega) (by omega) (by decide)) (by rw [S_len]; omega) (by rw [S_len]; omega) (fun _ => ?_) hs ht
  rw [item_eq h0 h1]
  exact h _ _
/-! slices -/
theorem slice_to {j : Int} (h0 : 0 ≤ j) (h1 : j ≤ xs.length) : Txt.slice (S xs) none (some j) = S (xs.take j.toNat) := by
  show StrLaws.sliceText (S xs) none (some j) = _
  rw [StrLaws.sliceText_to (x := S xs) ⟨h0, by rw [S_list]; exact h1⟩, S_list, List.drop_zero, Int.sub_zero]
theorem slice_ss {i j : Int} (h0 : 0 ≤ i) (hij : i ≤ j) (h1 : j ≤ xs.length) : Txt.slice (S xs) (some i) (some j) = S ((xs.drop i.toNat).take (j - i).toNat) := by
  show StrLaws.sliceText (S xs) (some i) (some j) = _
  rw [StrLaws.sliceText_plain (x := S xs) ⟨h0, hij, by rw [S_list]; exact h1⟩, S_list]
theorem slice_from {i : Int} (h0 : 0 ≤ i) (h1 : i ≤ xs.length) : Txt.slice (S xs) (some i) none = S (xs.drop i.toNat) := by
  have e : Txt.slice (S xs) (some i) none = StrLaws.sliceText (S xs) (some i) (some ((S xs).length : Int)) := by
    show StrLaws.sliceText (S xs) (some i) none = _
    unfold StrLaws.sliceText
    rw [StrLaws.sliceIdx_none_hi]
  rw [e, S_len, StrLaws.sliceText_plain (x := S xs) ⟨h0, h1, by rw [S_list]; omega⟩, S_list]
  congr 1
  rw [List.take_of_length_le]
  rw [List.length_drop]; omega
theorem slice_rev (u : Tok) : Txt.sliceBy (S xs) none none (-1, u) = S xs.reverse := by
  apply Str.ext'
  apply Array.toList_inj.mp
  rw [step_rev_list, S_len, S_list]
  apply List.ext_getElem?
  intro i
  rw [List.getElem?_map]
  by_cases hi : i < xs.length
  · rw [List.getElem?_range hi, List.getElem?_reverse hi, List.getElem?_eq_getElem (by omega)]
    have hj : xs.length - 1 - i < xs.length := by omega
    simp [S, hj]
  · rw [List.getElem?_eq_none (by simp; omega), List.getElem?_eq_none (by simp; omega)]
    rfl
abbrev slO (vl vu vs : Value) : Obj := { cls := .type "slice", data := .fields #[vl, vu, vs] }
theorem sl_to {value slice : PySem.Expr} {j : Int} {tk : Nat} {hp : Heap} (F : Fr h₀ L hp m) (N : News h₀ L hp news) (h0 : 0 ≤ j) (h1 : j ≤ xs.length) (hb : xs.length ≤ 2 ^ 20)
    (h : ∀ h' t k, Fr h₀ L h' m → News h₀ L h' news → Q (.str (S (xs.take j.toNat)) t) { s with heap := h', toks := k })
    (hs : subscripted slice false (.str (S xs) t) (.ref hp.objs.size) = operate [.ref hp.objs.size, .str (S xs) t] (getItem (.str (S xs) t) (.ref hp.objs.size)) := by with_unfolding_all rfl)
    (ht : ∀ r, letTemporaryGo value (.str (S xs) t) r = pure () := by intro _; with_unfolding_all rfl) :
    wpAny (model prog w) A (subscriptTail value slice (.str (S xs) t) (.ref hp.objs.size)) Q E { s with heap := hp.push (slO .none (.int j u) .none), toks := tk } :=
  slice_strN_ns (s := { s with heap := hp, toks := tk }) F N (fun h' t' k F' N' => by rw [slice_to h0 h1]; exact h h' t' k F' N') hs ht (by rw [sizeLine_eq, S_len]; omega)
theorem sl_ss {value slice : PySem.Expr} {i j : Int} {tk : Nat} {hp : Heap} {u' : Tok} (F : Fr h₀ L hp m) (N : News h₀ L hp news) (h0 : 0 ≤ i) (hij : i ≤ j) (h1 : j ≤ xs.length) (hb : xs.length ≤ 2 ^ 20)
    (h : ∀ h' t k, Fr h₀ L h' m → News h₀ L h' news → Q (.str (S ((xs.drop i.toNat).take (j - i).toNat)) t) { s with heap := h', toks := k })
    (hs : subscripted slice false (.str (S xs) t) (.ref hp.objs.size) = operate [.ref hp.objs.size, .str (S xs) t] (getItem (.str (S xs) t) (.ref hp.objs.size)) := by with_unfolding_all rfl)
    (ht : ∀ r, letTemporaryGo value (.str (S xs) t) r = pure () := by intro _; with_unfolding_all rfl) :
    wpAny (model prog w) A (subscriptTail value slice (.str (S xs) t) (.ref hp.objs.size)) Q E { s with heap := hp.push (slO (.int i u) (.int j u') .none), toks := tk } :=
  slice_strN_ss (s := { s with heap := hp, toks := tk }) F N (fun h' t' k F' N' => by rw [slice_ss h0 hij h1]; exact h h' t' k F' N') hs ht (by rw [sizeLine_eq, S_len]; omega)
theorem sl_from {value slice : PySem.Expr} {i : Int} {tk : Nat} {hp : Heap} (F : Fr h₀ L hp m) (N : News h₀ L hp news) (h0 : 0 ≤ i) (h1 : i ≤ xs.length) (hb : xs.length ≤ 2 ^ 20)
    (h : ∀ h' t k, Fr h₀ L h' m → News h₀ L h' news → Q (.str (S (xs.drop i.toNat)) t) { s with heap := h', toks := k })
    (hs : subscripted slice false (.str (S xs) t) (.ref hp.objs.size) = operate [.ref hp.objs.size, .str (S xs) t] (getItem (.str (S xs) t) (.ref hp.objs.size)) := by with_unfolding_all rfl)
    (ht : ∀ r, letTemporaryGo value (.str (S xs) t) r = pure () := by intro _; with_unfolding_all rfl) :
    wpAny (model prog w) A (subscriptTail value slice (.str (S xs) t) (.ref hp.objs.size)) Q E { s with heap := hp.push (slO (.int i u) .none .none), toks := tk } :=
  slice_strN_sn (s := { s with heap := hp, toks := tk }) F N (fun h' t' k F' N' => by rw [slice_from h0 h1]; exact h h' t' k F' N') hs ht (by rw [sizeLine_eq, S_len]; omega)
theorem sl_rev {value slice : PySem.Expr} {tk : Nat} {hp : Heap} (F : Fr h₀ L hp m) (N : News h₀ L hp news) (hb : xs.length ≤ 2 ^ 20)
    (h : ∀ h' t k, Fr h₀ L h' m → News h₀ L h' news → Q (.str (S xs.reverse) t) { s with heap := h', toks := k })
    (hs : subscripted slice false (.str (S xs) t) (.ref hp.objs.size) = operate [.ref hp.objs.size, .str (S xs) t] (getItem (.str (S xs) t) (.ref hp.objs.size)) := by with_unfolding_all rfl)
    (ht : ∀ r, letTemporaryGo value (.str (S xs) t) r = pure () := by intro _; with_unfolding_all rfl) :
    wpAny (model prog w) A (subscriptTail value slice (.str (S xs) t) (.ref hp.objs.size)) Q E { s with heap := hp.push (slO .none .none (.int (-1) u)), toks := tk } :=
  slice_strK_nn (s := { s with heap := hp, toks := tk }) F N (by decide) (fun h' t' k F' N' => by rw [slice_rev]; exact h h' t' k F' N') hs ht (by rw [sizeLine_eq, S_len]; omega)
/-! one text with another -/
theorem add_S (hb : xs.length + ys.length ≤ 2 ^ 20) (h : ∀ t k, Q (.str (S (xs ++ ys)) t) { s with toks := k }) : wpAny (model prog w) A (binaryOp .Add (.str (S xs) t) (.str (S ys) u)) Q E s :=
  add_str (fun t' k => by rw [S_append]; exact h t' k) (by rw [S_len, S_len, sizeLine_eq]; omega)
theorem eq_S (h : Q (.bool (decide (xs = ys))) s) : wpAny (model prog w) A (compareOp .Eq (.str (S xs) t) (.str (S ys) u)) Q E s :=
  eq_str (by rw [S_eq]; exact h)
theorem ne_S (h : Q (.bool (!decide (xs = ys))) s) : wpAny (model prog w) A (compareOp .NotEq (.str (S xs) t) (.str (S ys) u)) Q E s :=
  ne_str (by rw [bne, S_eq]; exact h)
/-- ys stands within xs -/
def isIn (ys xs : List Nat) : Bool := (List.range (xs.length + 1)).any fun i => decide ((xs.drop i).take ys.length = ys)
theorem isIn_iff {ys xs : List Nat} : isIn ys xs = true ↔ ys <:+: xs := by
  unfold isIn
  rw [List.any_eq_true]
  constructor
  · rintro ⟨i, _, e⟩
    replace e := of_decide_eq_true e
    refine ⟨xs.take i, (xs.drop i).drop ys.length, ?_⟩
    have h := List.take_append_drop ys.length (xs.drop i)
    rw [e] at h
    rw [List.append_assoc, h, List.take_append_drop]
  · rintro ⟨a, b, rfl⟩
    refine ⟨a.length, List.mem_range.mpr (by simp only [List.length_append]; omega), decide_eq_true ?_⟩
    rw [List.append_assoc, List.drop_left, List.take_left]
theorem found_S (xs ys : List Nat) : (!(Builtin.Str.occurrences (S xs) (S ys) 0 (S xs).length 1).isEmpty) = isIn ys xs := by
  rw [← Bool.coe_iff_coe, StrLaws.found_iff]
  unfold isIn
  rw [List.any_eq_true]
  constructor
  · rintro ⟨i, h1, h2⟩
    rw [StrLaws.subAt_eq, S_list, S_list, S_len, beq_iff_eq] at h2
    rw [S_len, S_len] at h1
    exact ⟨i, List.mem_range.mpr (by omega), decide_eq_true h2⟩
  · rintro ⟨i, h1, h2⟩
    replace h2 := of_decide_eq_true h2
    refine ⟨i, ?_, ?_⟩
    · rw [S_len, S_len]
      have := congrArg List.length h2
      rw [List.length_take, List.length_drop] at this
      have := List.mem_range.mp h1
      omega
    · rw [StrLaws.subAt_eq, S_list, S_list, S_len, beq_iff_eq]; exact h2
theorem in_S (h : Q (.bool (isIn ys xs)) s) : wpAny (model prog w) A (compareOp .In (.str (S ys) u) (.str (S xs) t)) Q E s :=
  in_str (by rw [found_S]; exact h)
theorem notin_S (h : Q (.bool (!isIn ys xs)) s) : wpAny (model prog w) A (compareOp .NotIn (.str (S ys) u) (.str (S xs) t)) Q E s :=
  notIn_str (by rw [found_S]; exact h)
/-! case -/
theorem lower_S (hA : ∀ c ∈ xs, c < 128) (hb : xs.length ≤ 2 ^ 20) (h : ∀ t k, Q (.str (S (xs.map lo1)) t) { s with toks := k }) : wpAny (model prog w) A (call (.builtin "str.lower") [.str (S xs) t]) Q E s :=
  SCL.lower (by rw [S_len]; omega) fun _ => by
    rw [lower_ascii (x := S xs) (by rw [S_list]; exact hA)]
    have e : (⟨(S xs).cps.map lo1⟩ : Str) = S (xs.map lo1) := by simp [S]
    rw [e]; exact h _ _
theorem upper_S (hA : ∀ c ∈ xs, c < 128) (hb : xs.length ≤ 2 ^ 20) (h : ∀ t k, Q (.str (S (xs.map up1)) t) { s with toks := k }) : wpAny (model prog w) A (call (.builtin "str.upper") [.str (S xs) t]) Q E s :=
  SCL.upper (by rw [S_len]; omega) fun _ => by
    rw [upper_ascii (x := S xs) (by rw [S_list]; exact hA)]
    have e : (⟨(S xs).cps.map up1⟩ : Str) = S (xs.map up1) := by simp [S]
    rw [e]; exact h _ _
/-! the part ahead of the first stroke -/
theorem takeWhile_cut {a b : List Nat} {c : Nat} (h : c ∉ a) : (a ++ c :: b).takeWhile (· != c) = a := by
  induction a with
  | nil => simp
  | cons x a ih =>
    have hx : (x != c) = true := by simpa using fun (e : x = c) => h (by rw [e]; exact .head _)
    rw [List.cons_append, List.takeWhile_cons, if_pos hx, ih fun q => h (.tail _ q)]
theorem takeWhile_all {a : List Nat} {c : Nat} (h : c ∉ a) : a.takeWhile (· != c) = a := by
  induction a with
  | nil => rfl
  | cons x a ih =>
    have hx : (x != c) = true := by simpa using fun (e : x = c) => h (by rw [e]; exact .head _)
    rw [List.takeWhile_cons, if_pos hx, ih fun q => h (.tail _ q)]
theorem split_ne (x y : Str) : Txt.split x y ≠ [] := by
  unfold Txt.split
  split
  · exact fun h => nomatch h
  · split
    · exact fun h => nomatch h
    · unfold Builtin.Str.partsBetween
      cases Builtin.Str.occurrences x y 0 x.length (x.length + 1) with
      | nil => exact fun h => nomatch h
      | cons i r => exact fun h => nomatch h
theorem split_head (xs : List Nat) (c : Nat) : ∃ r, Txt.split (S xs) (S [c]) = S (xs.takeWhile (· != c)) :: r := by
  have hj := StrLaws.join_split (S xs) (S [c])
  have hf : ∀ p ∈ Txt.split (S xs) (S [c]), c ∉ p.cps.toList := StrLaws.split_free (S xs) c
  cases hp : Txt.split (S xs) (S [c]) with
  | nil => exact absurd hp (split_ne _ _)
  | cons p r =>
    rw [hp] at hj hf
    have h1 := hf p (.head _)
    refine ⟨r, ?_⟩
    have e : xs.takeWhile (· != c) = p.cps.toList := by
      have e2 := congrArg (fun z : Str => z.cps.toList) hj
      dsimp only at e2
      rw [S_list] at e2
      rw [← e2]
      cases r with
      | nil => exact takeWhile_all h1
      | cons q r =>
        show List.takeWhile _ (p ++ S [c] ++ Str.join (S [c]) (q :: r)).cps.toList = _
        rw [Str.cps_append, Str.cps_append, Array.toList_append, Array.toList_append, S_list, List.append_assoc]
        exact takeWhile_cut h1
    rw [e, ← S_of]
end
end Mine
end
section
open PySem PySem.W PySem.Calls PyProof.Rows Mine
set_option Elab.async false
set_option maxRecDepth 100000
set_option maxHeartbeats 4000000
namespace Mine

def ovJ (xs : List Nat) (tx : Tok) (i : Nat) (m : Str → Option Value) (nx : List (Addr × Obj)) : Prop :=
  ∃ D ts c, nx = [(D, W.listOf ts.toArray c)] ∧ IntsAre ts (tabI xs (i + 1)) ∧ m (Str.ofString "table") = some (.ref D) ∧ m (Str.ofString "prefix") = some (.str (S xs) tx)
def ovW (xs : List Nat) (tx : Tok) (i : Nat) (ti : Tok) (I : Addr) (oI : Obj) (n : Nat) (m : Str → Option Value) (nx : List (Addr × Obj)) : Prop :=
  ∃ D ts c t, nx = [(D, W.listOf ts.toArray c), (I, oI)] ∧ D ≠ I ∧ IntsAre ts (tabI xs (i + 1)) ∧ m (Str.ofString "table") = some (.ref D) ∧ m (Str.ofString "prefix") = some (.str (S xs) tx) ∧ m (Str.ofString "i") = some (.int (1 + i) ti) ∧
    m (Str.ofString "idx") = some (.int n t) ∧ Cand xs (i + 1) n
theorem tabI_getD {w : List Nat} {k j : Nat} {z : Int} (hz : z.toNat = j) (hj : j < w.length) (hk : j < k) : (tabI w k).getD z.toNat 0 = ((lb w (j + 1) : Nat) : Int) := by
  rw [hz, List.getD_eq_getElem?_getD, tabI_get hj, if_pos hk]; rfl
theorem one_eq {xs : List Nat} {i j : Nat} (hi : i < xs.length) (hj : j < xs.length) : decide ([xs.getD i 0] = [xs.getD j 0]) = decide (xs[i]? = xs[j]?) := by
  rw [List.getD_eq_getElem?_getD, List.getD_eq_getElem?_getD, List.getElem?_eq_getElem hi, List.getElem?_eq_getElem hj]
  simp
theorem overlap_spec (w : World) (mg mb : Str → Option Value) : PySem.Challenge.rw_wn0034_02.row.prog = pr1 → ∀ s : Shared, (hd2.heap_39 w.params).In s.heap → TR1 mg mb s.heap →
    ∀ (tx : Tok) (xs : List Nat), xs.length ≤ 2 ^ 10 →
    Fn 20 pr1 w 28 [.str (S xs) tx] (fun v h => ∃ z ts n, v = .ref z ∧ h.get? z = some (W.listOf ts.toArray n) ∧ IntsAre ts (tabF xs)) s := by
  k_with_none
  k_with "call builtin:len" => refine Halt.out ?_
  k_with "subscriptTail Name Name str int" => refine Halt.out ?_
  k_with "compareOp NotEq str str" => refine Halt.out ?_
  k_with "exec If" => refine wpAny_If ?_
  k_with "call ref" => refine Halt.out ?_
  k_with "pyIter ref" => refine Halt.out ?_
  k_with "exec While Compare cons cons" => refine Halt.out ?_
  k_with "exec While Compare cons nil" => refine Halt.out ?_
  k_with "exec For Name Call cons nil" => k_dflt (refine wpAny_For ?_)
  k_with "eval Name" => (k_here; k_dflt (refine nameX_L (by k_asm) (by assumption) ?_; k_whole))
  k_fill
  intro _ s X T tx xs hb
  k_dflt (refine' Fn.of_body (binds := [(Str.ofString "prefix", .str (S xs) tx)]) (K := hd2.heap_39 w.params) X T.nolimit ?k1 ?k2 ?k3 ?k4 ?_ ?c1 ?c2 ?c3 ?c4)
  case k1 => k_is
  case k2 => k_is
  case k3 => exact BindsTo.of_eq rfl
  case k4 => exact locs rfl
  case c1 => exact rfl
  case c2 => exact rfl
  case c3 => exact rfl
  case c4 => decide
  intro dp un fr gd L h₁ hdp hun F
  have N : News s.heap L h₁ [] := News.nil
  (try dsimp only)
  k_unmd
  k_fold
  k_steps
  refine ⟨?_⟩
  refine len_S (by omega) fun _ _ => ?_
  (try dsimp only)
  k_steps
  refine ⟨?_⟩
  refine len_S (by omega) fun _ _ => ?_
  (try dsimp only)
  k_steps
  refine ⟨?_⟩
  rename IsRange _ _ _ _ _ _ _ _ => R1
  rename Fr _ _ _ _ => F1
  rename News _ _ _ _ => N1
  rename IntsAre _ _ => I1
  replace N1 := fun p hp => N1 p (List.mem_cons.mpr (.inl (List.mem_singleton.mp hp)))
  k_dflt (refine For_range_J (n := xs.length - 1) (news := [_]) (old := []) (ovJ xs tx) rfl R1 (small_one (by omega) (by omega) (by omega) (by omega)) ?_ F1 N1 ?_ ?_ ?_)
  · rw [rangeSize_one]; split <;> omega
  · exact ⟨_, _, _, rfl, by rw [tabI_start]; simpa using I1, rfl, rfl⟩
  · rintro i ti m₁ nx h tk I oI hi ⟨D, ts, c, rfl, I2, e1, e2⟩ hI hoff ⟨vs2, hoI⟩ F2 N2
    have ne2 := neN (hoff _ (.head _))
    have l2 := I2.length
    rw [tabI_length] at l2
    clear N1 F1 R1
    simp only [List.cons_append, List.nil_append] at N2
    k_unmd
    k_fold
    k_steps
    refine ⟨?_⟩
    rename Fr _ _ _ _ => F3
    rename News _ _ _ _ => N3
    simp only [tabI_getD (show (1 + ↑i - 1 : Int).toNat = i by omega) (show i < xs.length by omega) (show i < i + 1 by omega)] at F3
    have hil : i + 1 < xs.length := by omega
    k_dflt (refine While_J (ovW xs tx i ti I oI) (lb xs (i + 1)) F3 N3 ⟨_, _, _, _, rfl, ne2, I2, e1, e2, rfl, rfl, Cand.start (by omega) hil⟩ ?_)
    clear F2 N2 F3 N3 I2 e1 e2 l2 ne2
    rintro n m₂ nx h2 tk2 ⟨D, ts, c, t, rfl, ne2, I2, e1, e2, e3, e4, hc⟩ F4 N4
    replace ne2 := neN ne2
    have l2 := I2.length
    rw [tabI_length] at l2
    have hlt := hc.lt
    k_unmd
    k_fold
    k_steps
    refine ⟨?_⟩
    refine item_S (by omega) (by omega) (by omega) fun _ _ => ?_
    (try dsimp only)
    k_steps
    refine ⟨?_⟩
    refine item_S (by omega) (by omega) (by omega) fun _ _ => ?_
    (try dsimp only)
    k_steps
    refine ⟨?_⟩
    refine ne_S ?_
    rw [one_eq (by omega) (by omega), show (1 + ↑i : Int).toNat = i + 1 by omega, show (↑n : Int).toNat = n by omega]
    (try dsimp only)
    k_steps
    case _ =>
      rename Fr _ _ _ _ => F5
      rename News _ _ _ _ => N5
      rename IntsAre _ ((tabI _ _).set _ _) => I5
      rename xs[i + 1]? = xs[n]? => q3
      dsimp only
      refine TurnEnd.n1 F5 N5 ne2 ⟨_, _, _, rfl, ?_, e1, e2⟩
      · rw [show (1 + ↑i : Int).toNat = i + 1 by omega, tabI_set (k := i + 1) hil (by rw [hc.found hil q3]; rfl)] at I5
        rw [show (1 + ↑i : Int).toNat = i + 1 by omega]
        exact I5
    case _ =>
      rename Fr _ _ _ _ => F5
      rename News _ _ _ _ => N5
      rename IntsAre _ ((tabI _ _).set _ _) => I5
      rename ¬ xs[i + 1]? = xs[n]? => q3
      rename (n : Int) = 0 => q2
      have en : n = 0 := by omega
      subst en
      dsimp only
      refine TurnEnd.n1 F5 N5 ne2 ⟨_, _, _, rfl, ?_, e1, e2⟩
      · rw [show (1 + ↑i : Int).toNat = i + 1 by omega, tabI_set (k := i + 1) hil (by rw [hc.stop hil q3]; rfl)] at I5
        rw [show (1 + ↑i : Int).toNat = i + 1 by omega]
        exact I5
    case _ =>
      rename Fr _ _ _ _ => F5
      rename News _ _ _ _ => N5
      rename ¬ xs[i + 1]? = xs[n]? => q3
      rename (n : Int) ≠ 0 => q2
      rw [tabI_getD (show (↑n - 1 : Int).toNat = n - 1 by omega) (show n - 1 < xs.length by omega) (show n - 1 < i + 1 by omega), show n - 1 + 1 = n by omega] at F5
      dsimp only
      refine TurnEnd.w F5 N5 ⟨lb xs n, (lb_mem xs (by omega)).1, _, _, _, _, rfl, ne2, I2, e1, e2, e3, rfl, hc.down hil (by omega) q3⟩
  · rintro m₁ nx h tk ⟨D, ts, c, rfl, I2, e1, e2⟩ F2 N2
    simp only [List.cons_append, List.nil_append] at N2
    rw [tabI_full (by omega)] at I2
    clear N1 F1 R1
    k_unmd
    k_fold
    k_steps
    dsimp only
    exact Back.intro F2 ⟨_, _, _, rfl, N2.get (.head _), I2⟩
end Mine
end
section
open PySem PySem.W PySem.Calls PyProof.Rows Mine
set_option Elab.async false
set_option maxRecDepth 100000
set_option maxHeartbeats 4000000
namespace Mine

def ceJ (l : Addr) (m : Str → Option Value) (nx : List (Addr × Obj)) : Prop :=
  ∃ D ts ns c, nx = [(D, W.listOf ts.toArray c)] ∧ IntsAre ts ns ∧ ns.length = 3 ∧ m (Str.ofString "cells") = some (.ref D) ∧ m (Str.ofString "script") = some (.ref l)
theorem cells_spec (w : World) (mg mb : Str → Option Value) : PySem.Challenge.rw_wn0034_02.row.prog = pr1 → ∀ s : Shared, (hd2.heap_39 w.params).In s.heap → TR1 mg mb s.heap →
    ∀ (l : Addr) (vs : List Value) (xs : List Int), s.heap.IsList l vs.toArray → IntsAre vs xs → xs.length ≤ 63 →
    Fn 30 pr1 w 84 [.ref l] (fun v h => ∃ z ts ns n, v = .ref z ∧ Fresh s.heap h [(z, W.listOf ts.toArray n)] ∧ IntsAre ts ns ∧ ns.length = 3) s := by
  k_with_none
  k_with "call ref" => refine Halt.out ?_
  k_with "pyIter ref" => refine Halt.out ?_
  k_with "exec For Name Call cons nil" => k_dflt (refine wpAny_For ?_)
  k_with "eval Name" => (k_here; k_dflt (refine nameX_L (by k_asm) (by assumption) ?_; k_whole))
  k_fill
  intro _ s X T l vs xs hl hx hb
  k_dflt (refine' Fn.of_body (binds := [(Str.ofString "script", .ref l)]) (K := hd2.heap_39 w.params) X T.nolimit ?k1 ?k2 ?k3 ?k4 ?_ ?c1 ?c2 ?c3 ?c4)
  case k1 => k_is
  case k2 => k_is
  case k3 => exact BindsTo.of_eq rfl
  case k4 => exact locs rfl
  case c1 => exact rfl
  case c2 => exact rfl
  case c3 => exact rfl
  case c4 => decide
  intro dp un fr gd L h₁ hdp hun F
  have N : News s.heap L h₁ [] := News.nil
  (try dsimp only)
  k_unmd
  k_fold
  k_steps
  refine ⟨?_⟩
  rename IsRange _ _ _ _ _ _ _ _ => R1
  rename Fr _ _ _ _ => F1
  rename News _ _ _ _ => N1
  rename IntsAre vs _ => hx
  have hxl := hx.length
  k_dflt (refine For_range_J (n := xs.length) (news := [_]) (old := []) (fun _ => ceJ l) rfl R1 (small_one (by omega) (by omega) (by omega) (by omega)) ?_ F1 N1 ?_ ?_ ?_)
  · rw [rangeSize_one]; split <;> omega
  · exact ⟨_, [.int 318 _, .int 3 _, .int 10 _], [318, 3, 10], _, rfl, .cons _ _ (.cons _ _ (.cons _ _ .nil)), rfl, rfl, rfl⟩
  · rintro i ti m₁ nx h tk I oI hi ⟨D, ts, ns, c, rfl, I2, l2, e1, e2⟩ hI hoff ⟨vs2, hoI⟩ F2 N2
    have ne2 := neN (hoff _ (.head _))
    clear N1 F1 R1
    have hf : (0 + (i : Int)).fmod 3 = (i : Int) % 3 := by rw [Int.fmod_eq_emod_of_nonneg _ (by decide), Int.zero_add]
    simp only [List.cons_append, List.nil_append] at N2
    k_unmd
    k_fold
    k_steps
    rename IntsAre (ts.set _ _) _ => I5
    rename Fr _ _ _ _ => F5
    rename News _ _ _ _ => N5
    dsimp only
    exact TurnEnd.n1 F5 N5 ne2 ⟨_, _, _, _, rfl, I5, (List.length_set ..).trans l2, e1, e2⟩
  · rintro m₁ nx h tk ⟨D, ts, ns, c, rfl, I2, l2, e1, e2⟩ F2 N2
    clear N1 F1 R1
    k_unmd
    k_fold
    k_steps
    dsimp only
    exact Back.intro F2 ⟨_, _, _, _, rfl, Fresh.one N2 (.head _), I2, l2⟩
end Mine
end
section
open PySem PySem.W PySem.Calls PyProof.Rows Mine
set_option Elab.async false
set_option maxRecDepth 100000
set_option maxHeartbeats 4000000
namespace Mine
local macro_rules | `(tactic| k_inst) => `(tactic| exact instAt_keep (by assumption) (by k_asm))
theorem strs_ofS {vs : List Value} {xs : List (List Nat)} (h : StrsAre vs (xs.map S)) {i : Nat} {v : Value} (hv : vs[i]? = some v) : ∃ x t, v = .str (S x) t ∧ xs[i]? = some x := by
  have hi : i < vs.length := by
    by_cases q : i < vs.length
    · exact q
    · rw [List.getElem?_eq_none (by omega)] at hv; cases hv
  have hl := h.length
  rw [List.length_map] at hl
  have hx : (xs.map S)[i]? = some (S xs[i]) := by rw [List.getElem?_map, List.getElem?_eq_getElem]; rfl
  obtain ⟨t, e⟩ := h.at hx
  rw [hv] at e
  exact ⟨_, t, Option.some.inj e, List.getElem?_eq_getElem _⟩
theorem any_snoc {as : List (List Nat)} {P : List Nat → Bool} {i : Nat} {a : List Nat} (h : as[i]? = some a) : (as.take (i + 1)).any P = ((as.take i).any P || P a) := by
  rw [List.take_add_one, h, List.any_append]; simp
/-- what applies_to says -/
def hitP (ua a : List Nat) : Bool := decide (a ≠ [42]) && isIn (a.map lo1) ((ua.takeWhile (· != 47)).map lo1)
def applP (as : List (List Nat)) (ua : List Nat) : Bool := as.any (hitP ua)
def apJ (x : Addr) (ua' : List Nat) (P : List Nat → Bool) (as : List (List Nat)) (i : Nat) (m : Str → Option Value) (nx : List (Addr × Obj)) : Prop :=
  nx = [] ∧ (∃ t, m (Str.ofString "useragent") = some (.str (S ua') t)) ∧ (as.take i).any P = false
theorem applies_spec (w : World) (mg mb : Str → Option Value) : PySem.Challenge.rw_wn0034_02.row.prog = pr1 → ∀ s : Shared, (hd2.heap_39 w.params).In s.heap → TR1 mg mb s.heap →
    ∀ (x : Addr) (a1 r1 : List Value) (as : List (List Nat)) (ua : List Nat) (t : Tok), IsEntry w s.heap x a1 r1 → StrsAre a1 (as.map S) → as.length ≤ 2 ^ 10 → (∀ a ∈ as, a.length ≤ 2 ^ 10 ∧ ∀ c ∈ a, c < 128) → ua.length ≤ 2 ^ 10 → (∀ c ∈ ua, c < 128) →
    Fn 30 pr1 w 56 [.ref x, .str (S ua) t] (fun v h => v = .bool (applP as ua)) s := by
  k_with_none
  k_with "call ref" => refine Halt.out ?_
  k_with "pyIter ref" => refine Halt.out ?_
  k_with "call builtin:str.split" => refine Halt.out ?_
  k_with "call builtin:str.lower" => refine Halt.out ?_
  k_with "compareOp NotEq str str" => refine Halt.out ?_
  k_with "compareOp In str str" => refine Halt.out ?_
  k_with "subscriptTail Call Constant ref int" => refine Halt.out ?_
  k_with "call builtin:list.append" => (k_here; k_dflt (refine append_own (by k_asm) (by k_asm) (by k_upd) (by ((try simp only [List.length_append, List.length_cons, List.length_nil]); omega)) ?_; k_whole); intro h' F' N'; (try k_sweep))
  k_with "loadName" => (k_here; k_dflt (refine loadX_L (by k_asm) (by assumption) ?_; k_whole))
  k_with "exec For Name Call cons nil" => k_dflt (refine wpAny_For ?_)
  k_with "exec For Name Name cons nil" => k_dflt (refine wpAny_For ?_)
  k_with "exec For Name Attribute cons nil" => k_dflt (refine wpAny_For ?_)
  k_with "exec For Name Subscript cons nil" => k_dflt (refine wpAny_For ?_)
  k_with "eval Name" => (k_here; k_dflt (refine nameX_L (by k_asm) (by assumption) ?_; k_whole))
  k_with "exec If" => refine wpAny_If ?_
  k_fill
  intro _ s X T x a1 r1 as ua t ex ha hl hA hu hU
  k_dflt (refine' Fn.of_body (binds := [(Str.ofString "self", .ref x), (Str.ofString "useragent", .str (S ua) t)]) (K := hd2.heap_39 w.params) X T.nolimit ?k1 ?k2 ?k3 ?k4 ?_ ?c1 ?c2 ?c3 ?c4)
  case k1 => k_is
  case k2 => k_is
  case k3 => exact BindsTo.of_eq rfl
  case k4 => exact locs rfl
  case c1 => exact rfl
  case c2 => exact rfl
  case c3 => exact rfl
  case c4 => decide
  intro dp un fr gd L h₁ hdp hun F
  have N : News s.heap L h₁ [] := News.nil
  obtain ⟨dx, lx1, lx2, nx1, nx2, tx1, tx2, tx3, tx4, ex1, ex2, ex3, ex4⟩ := ex
  have Ix : InstAt s.heap x (instObj 66 dx) 66 (some (entryD w (.ref lx1) (.ref lx2) .none .none tx1 tx2 tx3 tx4)) := instAt_mk ex1 ex2
  (try dsimp only)
  k_unmd
  k_fold
  k_steps
  refine ⟨?_⟩
  rw [show Str.ofString "/" = S [47] from by decide +kernel]
  refine KSpl.split1 F N (by decide) (fun D l h2 k2 e1 hs F2 N2 lt2 => ?_) (by rw [sizeLine_eq, S_len]; omega)
  obtain ⟨r, hr⟩ := split_head ua 47
  have e9 := e1.trans hr
  rw [e9] at hs
  (try dsimp only)
  k_steps
  refine ⟨?_⟩
  rename (List.map _ l)[_]? = some _ => hy
  rename List.map _ l = _ => e9
  rw [e9] at hy
  cases hy
  (try dsimp only)
  have hU2 : ∀ c ∈ ua.takeWhile (· != 47), c < 128 := fun c hc => hU c ((List.takeWhile_prefix _).subset hc)
  have hu2 : (ua.takeWhile (· != 47)).length ≤ ua.length := (List.takeWhile_prefix _).length_le
  refine lower_S hU2 (by omega) fun t3 k3 => ?_
  (try dsimp only)
  k_steps
  refine ⟨?_⟩
  rename Fr _ _ _ _ => F4
  rename News _ _ _ _ => N4
  have hal := ha.length
  rw [List.length_map] at hal
  refine For_list_J (news := []) (old := _) (apJ x ((ua.takeWhile (· != 47)).map lo1) (hitP ua) as) rfl (listO_is (F4.keep _ _ ex3)) F4 N4 ⟨rfl, ⟨_, rfl⟩, rfl⟩ ?_ ?_ ?_
  · rintro i m₁ nx h5 _ ⟨rfl, _⟩ F5 N5 o e
    rw [F4.keep _ _ ex3] at e
    cases e
    exact F5.keep _ _ ex3
  · rintro i v m₁ nx h5 tk5 I oI hi hv ⟨rfl, ⟨tu, e2⟩, hno⟩ hI hoff ⟨vs2, hoI⟩ hl5 F5 N5
    obtain ⟨a, ta, rfl, hai⟩ := strs_ofS ha hv
    obtain ⟨hA1, hA2⟩ := hA a (List.mem_of_getElem? hai)
    clear F4 N4
    simp only [List.nil_append] at N5
    k_unmd
    k_fold
    (try dsimp only)
    k_steps
    refine ⟨?_⟩
    rw [show Str.ofString "*" = S [42] from by decide +kernel]
    refine ne_S ?_
    (try dsimp only)
    k_steps
    case' _ =>
      rename a = [42] => q
      rename Fr _ _ _ _ => F6
      rename News _ _ _ _ => N6
      (try dsimp only)
      refine TurnEnd.n0 F6 N6 ⟨rfl, ⟨_, e2⟩, ?_⟩
      rw [any_snoc hai, hno, Bool.false_or, hitP, decide_eq_false (fun h => h q), Bool.false_and]
    case _ =>
      refine ⟨?_⟩
      rename ¬ a = [42] => q
      refine lower_S hA2 (by omega) fun t6 k6 => ?_
      (try dsimp only)
      k_steps
      refine ⟨?_⟩
      refine in_S ?_
      (try dsimp only)
      have hh : hitP ua a = isIn (a.map lo1) ((ua.takeWhile (· != 47)).map lo1) := by rw [hitP, decide_eq_true q, Bool.true_and]
      rw [← hh]
      k_steps
      case' _ =>
        rename hitP ua a = true => q2
        rename Fr _ _ _ _ => F7
        (try dsimp only)
        refine Back.intro F7 ?_
        show Value.bool true = Value.bool (applP as ua)
        rw [applP, List.any_eq_true.mpr ⟨a, List.mem_of_getElem? hai, q2⟩]
      case _ =>
        rename hitP ua a = false => q2
        rename Fr _ _ _ _ => F7
        rename News _ _ _ _ => N7
        (try dsimp only)
        refine TurnEnd.n0 F7 N7 ⟨rfl, ⟨_, e2⟩, ?_⟩
        rw [any_snoc hai, hno, Bool.false_or, q2]
  · rintro m₁ nx h5 tk5 ⟨rfl, ⟨tu, e2⟩, hno⟩ F5 N5
    k_unmd
    k_fold
    (try dsimp only)
    k_steps
    (try dsimp only)
    refine Back.intro F5 ?_
    rw [hal, List.take_length] at hno
    show Value.bool false = Value.bool (applP as ua)
    rw [applP, hno]
end Mine
end
section
open PySem PySem.W PySem.Calls PyProof.Rows Mine
set_option Elab.async false
set_option maxRecDepth 100000
set_option maxHeartbeats 4000000
namespace Mine
def abc (xs : List Nat) : Prop := ∀ c ∈ xs, 97 ≤ c ∧ c < 100
theorem abc_app {xs ys : List Nat} (h : abc xs) (k : abc ys) : abc (xs ++ ys) := fun c hc => (List.mem_append.mp hc).elim (h c) (k c)
theorem iadd_S {prog : Program} {w : World} {A : Around} {E : Value → Shared → Prop} {s : Shared} {xs ys : List Nat} {t u : Tok} {Q : Value → Shared → Prop} (hb : xs.length + ys.length ≤ 2 ^ 20) (h : ∀ t k, Q (.str (S (xs ++ ys)) t) { s with toks := k }) : wpAny (model prog w) A (inplaceOp .Add (.str (S xs) t) (.str (S ys) u)) Q E s :=
  iadd_str (fun t' k => by rw [S_append]; exact h t' k) (by rw [S_len, S_len, sizeLine_eq]; omega)
def woJ (x : Int) (i : Nat) (m : Str → Option Value) (nx : List (Addr × Obj)) : Prop :=
  nx = [] ∧ ∃ xs t u, m (Str.ofString "word") = some (.str (S xs) t) ∧ m (Str.ofString "number") = some (.int x u) ∧ xs.length = i ∧ abc xs
theorem word_spec (w : World) (mg mb : Str → Option Value) : PySem.Challenge.rw_wn0034_02.row.prog = pr1 → ∀ s : Shared, (hd2.heap_39 w.params).In s.heap → TR1 mg mb s.heap →
    ∀ (x n : Int) (t u : Tok), 0 ≤ n → n ≤ 16 →
    Fn 30 pr1 w 91 [.int x t, .int n u] (fun v h => ∃ xs t, v = .str (S xs) t ∧ (xs.length : Int) = n ∧ abc xs) s := by
  k_with_none
  k_with "call ref" => refine Halt.out ?_
  k_with "pyIter ref" => refine Halt.out ?_
  k_with "binaryOp FloorDiv int int" => refine Halt.out ?_
  k_with "subscriptTail Constant BinOp str int" => refine Halt.out ?_
  k_with "inplaceOp Add str str" => refine Halt.out ?_
  k_with "call builtin:list.append" => (k_here; k_dflt (refine append_own (by k_asm) (by k_asm) (by k_upd) (by ((try simp only [List.length_append, List.length_cons, List.length_nil]); omega)) ?_; k_whole); intro h' F' N'; (try k_sweep))
  k_with "loadName" => (k_here; k_dflt (refine loadX_L (by k_asm) (by assumption) ?_; k_whole))
  k_with "exec For Name Call cons nil" => k_dflt (refine wpAny_For ?_)
  k_with "exec For Name Name cons nil" => k_dflt (refine wpAny_For ?_)
  k_with "exec For Name Attribute cons nil" => k_dflt (refine wpAny_For ?_)
  k_with "exec For Name Subscript cons nil" => k_dflt (refine wpAny_For ?_)
  k_with "eval Name" => (k_here; k_dflt (refine nameX_L (by k_asm) (by assumption) ?_; k_whole))
  k_with "exec If" => refine wpAny_If ?_
  k_fill
  intro _ s X T x n t u hn0 hn1
  k_dflt (refine' Fn.of_body (binds := [(Str.ofString "number", .int x t), (Str.ofString "size", .int n u)]) (K := hd2.heap_39 w.params) X T.nolimit ?k1 ?k2 ?k3 ?k4 ?_ ?c1 ?c2 ?c3 ?c4)
  case k1 => k_is
  case k2 => k_is
  case k3 => exact BindsTo.of_eq rfl
  case k4 => exact locs rfl
  case c1 => exact rfl
  case c2 => exact rfl
  case c3 => exact rfl
  case c4 => decide
  intro dp un fr gd L h₁ hdp hun F
  have N : News s.heap L h₁ [] := News.nil
  (try dsimp only)
  k_unmd
  k_fold
  k_steps
  refine ⟨?_⟩
  rename IsRange _ _ _ _ _ _ _ _ => R1
  rename Fr _ _ _ _ => F1
  rename News _ _ _ _ => N1
  refine For_range_J (n := n.toNat) (news := []) (old := []) (woJ x) rfl R1 (small_one (by omega) (by omega) (by omega) (by omega)) ?_ F1 N1 ⟨rfl, [], _, _, by rw [show S [] = Str.ofString "" from by decide +kernel]; rfl, rfl, rfl, by intro c hc; cases hc⟩ ?_ ?_
  · rw [rangeSize_one]; split <;> omega
  · rintro i ti m₁ nx h tk I oI hi ⟨rfl, xs, t1, u1, e1, e2, hl, ha⟩ hI hoff ⟨vs2, hoI⟩ F2 N2
    clear F1 N1 R1
    simp only [List.nil_append] at N2
    k_unmd
    k_fold
    (try dsimp only)
    k_steps
    refine ⟨?_⟩
    refine floordiv_int (pow_ne (by decide) _) ?_ (.inl (pow_py (by decide) (by omega)))
    (try dsimp only)
    k_steps
    refine ⟨?_⟩
    rw [show Str.ofString "abc" = S [97, 98, 99] from by decide +kernel]
    have h3 := fmod_lt (a := x.fdiv (3 ^ (0 + (i : Int)).toNat)) (b := 3) (by decide)
    rw [item_eq h3.1 (by simpa using h3.2)]
    generalize (x.fdiv (3 ^ (0 + (i : Int)).toNat)).fmod 3 = q at h3
    refine iadd_S (by simp; omega) fun t5 k5 => ?_
    (try dsimp only)
    k_steps
    rename Fr _ _ _ _ => F6
    rename News _ _ _ _ => N6
    (try dsimp only)
    refine TurnEnd.n0 F6 N6 ⟨rfl, _, _, _, rfl, e2, by rw [List.length_append, List.length_singleton, hl], abc_app ha ?_⟩
    have e3 : q = 0 ∨ q = 1 ∨ q = 2 := by omega
    rcases e3 with rfl | rfl | rfl <;> (intro c hc; have := List.mem_singleton.mp hc; subst this; decide)
  · rintro m₁ nx h tk ⟨rfl, xs, t1, u1, e1, e2, hl, ha⟩ F2 N2
    clear F1 N1 R1
    k_unmd
    k_fold
    (try dsimp only)
    k_steps
    (try dsimp only)
    exact Back.intro F2 ⟨xs, _, rfl, by omega, ha⟩
end Mine
end
section
open PySem PySem.W PySem.Calls PyProof.Rows Mine
set_option Elab.async false
set_option maxRecDepth 100000
set_option maxHeartbeats 4000000
namespace Mine
def taJ (xs : List Nat) (i : Nat) (ys : List Value) (nx : List (Addr × Obj)) : Prop := nx = [] ∧ IntsAre ys ((List.range i).map fun k => (lb xs (k + 1) : Int))
def taI (xs : List Nat) (j i : Nat) (ys : List Value) (nx : List (Addr × Obj)) : Prop := nx = [] ∧ IntsAre ys (((List.range i).filter (isB xs j)).map fun k : Nat => (k : Int))
theorem cut_eq {xs : List Nat} {i k a b c : Nat} (ha : a = k) (hb : b = i + 1 - k) (hc : c = k) (hi : i < xs.length) (hk : k < i + 1) : decide (xs.take a = (xs.drop b).take c) = isB xs (i + 1) k := by
  rw [ha, hb, hc]
  unfold isB
  rw [List.drop_take, show i + 1 - (i + 1 - k) = k by omega]
theorem table_spec (w : World) (mg mb : Str → Option Value) : PySem.Challenge.rw_wn0034_02.row.prog = pr1 → ∀ s : Shared, (hd2.heap_39 w.params).In s.heap → TR1 mg mb s.heap →
    ∀ (tx : Tok) (xs : List Nat), xs.length ≤ 2 ^ 10 →
    Fn 30 pr1 w 96 [.str (S xs) tx] (fun v h => ∃ z ts n, v = .ref z ∧ h.get? z = some (W.listOf ts.toArray n) ∧ IntsAre ts (tabF xs)) s := by
  k_with_none
  k_with "call ref" => refine Halt.out ?_
  k_with "pyIter ref" => refine Halt.out ?_
  k_with "call builtin:len" => refine Halt.out ?_
  k_with "subscriptTail Name Slice str ref" => refine Halt.out ?_
  k_with "compareOp Eq str str" => refine Halt.out ?_
  k_with "call builtin:max" => refine Halt.out ?_
  k_with "call builtin:list.append" => (k_here; k_dflt (refine append_own (by k_asm) (by k_asm) (by k_upd) (by ((try simp only [List.length_append, List.length_cons, List.length_nil]); omega)) ?_; k_whole); intro h' F' N'; (try k_sweep))
  k_with "loadName" => (k_here; k_dflt (refine loadX_L (by k_asm) (by assumption) ?_; k_whole))
  k_with "exec For Name Call cons nil" => k_dflt (refine wpAny_For ?_)
  k_with "exec For Name Name cons nil" => k_dflt (refine wpAny_For ?_)
  k_with "exec For Name Attribute cons nil" => k_dflt (refine wpAny_For ?_)
  k_with "exec For Name Subscript cons nil" => k_dflt (refine wpAny_For ?_)
  k_with "eval Name" => (k_here; (with_reducible show wpAny _ _ (eval (Expr.Name _ _) (compEnvC _ _ _ _)) _ _ _); k_dflt (first | refine ldT_global (by k_asm) (by assumption) (by assumption) (by k_is) ?_ | refine ldT_built (by k_asm) (by assumption) (by assumption) (by k_is) (by boot_by_name) (by decide) ?_))
  k_with "eval ListComp" => k_dflt (refine Comp_ev (by with_unfolding_all rfl) (by rfl) (by decide) ?_)
  k_with "exec Assign cons ListComp" => k_dflt (refine Comp_as (by with_unfolding_all rfl) (by with_unfolding_all rfl) (by rfl) (by decide) ?_)
  k_with "eval Name" => (k_here; k_dflt (refine nameX_L (by k_asm) (by assumption) ?_; k_whole))
  k_with "exec If" => refine wpAny_If ?_
  k_fill
  intro _ s X T tx xs hb
  k_dflt (refine' Fn.of_bodyC (binds := [(Str.ofString "row", .str (S xs) tx)]) (K := hd2.heap_39 w.params) X T.nolimit ?k1 ?k2 ?k3 ?k4 ?k5 ?_ ?c1 ?c2 ?c3)
  case k1 => k_is
  case k2 => k_is
  case k3 => exact BindsTo.of_eq rfl
  case k4 => exact rfl
  case k5 => decide
  case c1 => exact rfl
  case c2 => exact rfl
  case c3 => exact rfl
  intro dp un fr gd L h₁ tk cells hdp hun F N Y
  k_cells Y
  (try dsimp only)
  k_unmd
  k_fold
  k_steps
  refine ⟨?_⟩
  refine len_S (by omega) fun _ _ => ?_
  (try dsimp only)
  k_steps
  refine ⟨?_⟩
  rename IsRange _ _ _ _ _ _ _ _ => R1
  rename Fr _ _ _ _ => F1
  rename News _ _ _ _ => N1
  refine rangeC_J (n := xs.length) (nx := []) (old := [_]) (taJ xs) (fun g => compK_ev) rfl R1 (small_one (by omega) (by omega) (by omega) (by omega)) ?_ (by rw [sizeLine_eq]; omega) F1 N1 ⟨rfl, .nil⟩ ?_ ?_
  · rw [rangeSize_one]; split <;> omega
  · rintro i t I oI C oC c oc D m₂ ys nx h tk hi ⟨rfl, hy⟩ hC hd F2 N2 off2 lt2
    clear F1 N1 R1
    refine TestsP.nil_if ?_
    simp only [List.nil_append] at N2
    dsimp only
    k_steps
    refine ⟨?_⟩
    rename IsRange _ _ _ _ _ _ _ _ => R3
    rename Fr _ _ _ _ => F3
    rename News _ _ _ _ => N3
    refine range_J (n := i + 1) (nx := []) (old := [_, _, _, _, _]) (taI xs (i + 1)) (fun g => compK_ev) rfl R3 (small_one (by omega) (by omega) (by omega) (by omega)) ?_ (by rw [sizeLine_eq]; omega) F3 N3 ⟨rfl, .nil⟩ ?_ ?_
    · rw [rangeSize_one]; split <;> omega
    · rintro k t' I' oI' C' oC' D2 m₃ zs nx2 h2 tk2 hk ⟨rfl, hz⟩ hC2 hm₃ F4 N4 off4 ne4 lt4
      clear F3 N3 R3
      refine TestsP.one_if ?_
      simp only [List.nil_append] at N4
      dsimp only
      k_steps
      refine ⟨?_⟩
      refine sl_to F4 N4 (by omega) (by omega) (by omega) fun h5 _ _ F5 N5 => ?_
      (try dsimp only)
      k_steps
      refine ⟨?_⟩
      rename Fr _ _ _ _ => F6
      rename News _ _ _ _ => N6
      refine sl_ss F6 N6 (by omega) (by omega) (by omega) (by omega) fun h7 _ _ F7 N7 => ?_
      (try dsimp only)
      k_steps
      refine ⟨?_⟩
      refine eq_S ?_
      rw [cut_eq (show (0 + (k : Int)).toNat = k by omega) (show (1 + (i : Int) - (0 + (k : Int))).toNat = i + 1 - k by omega) (show (1 + (i : Int) - (1 + (i : Int) - (0 + (k : Int)))).toNat = k by omega) hi hk]
      k_steps
      case _ =>
        rename isB xs (i + 1) k = true => hB
        rename Fr _ _ _ _ => F9
        rename News _ _ _ _ => N9
        refine CTurn.n0 F9 N9 (fun p hp => hp) ⟨rfl, ?_⟩
        rw [List.range_succ, List.filter_append, List.filter_cons, if_pos hB, List.filter_nil, List.map_append, List.map_cons, List.map_nil, Int.zero_add]
        exact hz.append (.cons _ _ .nil)
      case _ =>
        rename isB xs (i + 1) k = false => hB
        rename Fr _ _ _ _ => F9
        rename News _ _ _ _ => N9
        refine CTurn.n0 F9 N9 (fun p hp => hp) ⟨rfl, ?_⟩
        rw [List.range_succ, List.filter_append, List.filter_cons, if_neg (by rw [hB]; decide), List.filter_nil, List.append_nil]
        exact hz
    · rintro D2 h2 tk2 zs nx2 ⟨rfl, hz⟩ F4 N4 off4
      clear F3 N3 R3
      simp only [List.nil_append] at N4
      dsimp only
      k_steps
      refine ⟨?_⟩
      have hm := lb_mem xs (j := i + 1) (by omega)
      have h0 : ((lb xs (i + 1) : Nat) : Int) ∈ ((List.range (i + 1)).filter (isB xs (i + 1))).map fun k : Nat => (k : Int) :=
        List.mem_map.mpr ⟨_, List.mem_filter.mpr ⟨List.mem_range.mpr hm.1, hm.2⟩, rfl⟩
      refine max_list_N rfl F4 N4 (listO_is (N4.get (.head _))) hz (List.length_pos_of_mem h0) fun h5 M t5 tk5 F5 N5 hM hle => ?_
      have eM : M = ((lb xs (i + 1) : Nat) : Int) := by
        have h1 := hle _ h0
        obtain ⟨q, hq, rfl⟩ := List.mem_map.mp hM
        obtain ⟨hq1, hq2⟩ := List.mem_filter.mp hq
        have := lb_ge xs (List.mem_range.mp hq1) hq2
        omega
      subst eM
      dsimp only
      refine CTurn.n0 F5 N5 (fun p hp => List.mem_cons_of_mem _ hp) ⟨rfl, ?_⟩
      rw [List.range_succ, List.map_append]
      exact hy.append (.cons _ _ .nil)
  · rintro D h tk ys nx ⟨rfl, hy⟩ F2 N2 off2
    clear F1 N1 R1
    simp only [List.nil_append] at N2
    dsimp only
    k_steps
    exact Back.intro F2 ⟨_, _, _, rfl, N2.get (.head _), hy⟩
end Mine
end
section
open PySem PySem.W PySem.Calls PyProof.Rows Mine
set_option Elab.async false
set_option maxRecDepth 100000
set_option maxHeartbeats 4000000
namespace Mine
def endP (xs : List Nat) (p k : Nat) : List Nat := (xs.take (p + 1)).drop k
def isNew (xs : List Nat) (p : Nat) (e : List Nat) : Bool := decide (e = e.reverse) && !isIn e (xs.take p)
/-- what _law_new gives -/
def newP (xs : List Nat) (p : Nat) : List (List Nat) := ((List.range (p + 1)).map (endP xs p)).filter (isNew xs p)
theorem end_eq {xs : List Nat} {p k a b : Nat} (ha : a = k) (hb : b = p + 1 - k) : (xs.drop a).take b = endP xs p k := by
  rw [ha, hb, endP, List.drop_take]
theorem compK_asn {prog : Program} {w : World} {A : Around} {s : Shared} {h₀ : Heap} {m : Str → Option Value} {env : Env} {y : Str} {py : Pos} {q : Shared → Prop} {E : Value → Shared → Prop} (hy : env.kindOf y = some .local) (hp : (env.scope.kind == .class || (env.scope.kind == .module && env.locals != env.globals)) = false) :
    CompK h₀ env.locals m (fun acc C => compPost (model prog w) A E (some (assign (.Name y py) env)) (fun _ s' => q s') acc C) (fun D z => if z = y then some (.ref D) else m z) (fun _ s' => q s') s :=
  compK_as (Q := fun _ s' => q s') rfl hy hp
theorem new_spec (w : World) (mg mb : Str → Option Value) : PySem.Challenge.rw_wn0034_02.row.prog = pr1 → ∀ s : Shared, (hd2.heap_39 w.params).In s.heap → TR1 mg mb s.heap →
    ∀ (tx tp : Tok) (xs : List Nat) (p : Int), xs.length ≤ 2 ^ 10 → 0 ≤ p → p < xs.length →
    Fn 30 pr1 w 108 [.str (S xs) tx, .int p tp] (fun v h => ∃ z vs n, v = .ref z ∧ Fresh s.heap h [(z, W.listOf (List.toArray vs) n)] ∧ StrsAre vs ((newP xs p.toNat).map S)) s := by
  k_with_none
  k_with "call ref" => refine Halt.out ?_
  k_with "pyIter ref" => refine Halt.out ?_
  k_with "subscriptTail Name Slice str ref" => refine Halt.out ?_
  k_with "compareOp Eq str str" => refine Halt.out ?_
  k_with "compareOp NotIn str str" => refine Halt.out ?_
  k_with "call builtin:list.append" => (k_here; k_dflt (refine append_own (by k_asm) (by k_asm) (by k_upd) (by ((try simp only [List.length_append, List.length_cons, List.length_nil]); omega)) ?_; k_whole); intro h' F' N'; (try k_sweep))
  k_with "loadName" => (k_here; k_dflt (refine loadX_L (by k_asm) (by assumption) ?_; k_whole))
  k_with "exec For Name Call cons nil" => k_dflt (refine wpAny_For ?_)
  k_with "exec For Name Name cons nil" => k_dflt (refine wpAny_For ?_)
  k_with "exec For Name Attribute cons nil" => k_dflt (refine wpAny_For ?_)
  k_with "exec For Name Subscript cons nil" => k_dflt (refine wpAny_For ?_)
  k_with "eval Name" => (k_here; (with_reducible show wpAny _ _ (eval (Expr.Name _ _) (compEnvC _ _ _ _)) _ _ _); k_dflt (first | refine ldT_global (by k_asm) (by assumption) (by assumption) (by k_is) ?_ | refine ldT_built (by k_asm) (by assumption) (by assumption) (by k_is) (by boot_by_name) (by decide) ?_))
  k_with "eval ListComp" => k_dflt (refine Comp_ev (by with_unfolding_all rfl) (by rfl) (by decide) ?_)
  k_with "exec Assign cons ListComp" => k_dflt (refine Comp_as (by with_unfolding_all rfl) (by with_unfolding_all rfl) (by rfl) (by decide) ?_)
  k_with "eval Name" => (k_here; k_dflt (refine nameX_L (by k_asm) (by assumption) ?_; k_whole))
  k_with "exec If" => refine wpAny_If ?_
  k_fill
  intro _ s X T tx tp xs p hb hp0 hp1
  k_dflt (refine' Fn.of_bodyC (binds := [(Str.ofString "row", .str (S xs) tx), (Str.ofString "place", .int p tp)]) (K := hd2.heap_39 w.params) X T.nolimit ?k1 ?k2 ?k3 ?k4 ?k5 ?_ ?c1 ?c2 ?c3)
  case k1 => k_is
  case k2 => k_is
  case k3 => exact BindsTo.of_eq rfl
  case k4 => exact rfl
  case k5 => decide
  case c1 => exact rfl
  case c2 => exact rfl
  case c3 => exact rfl
  intro dp un fr gd L h₁ tk cells hdp hun F N Y
  k_cells Y
  (try dsimp only)
  k_unmd
  k_fold
  k_steps
  refine ⟨?_⟩
  rename IsRange _ _ _ _ _ _ _ _ => R1
  rename Fr _ _ _ _ => F1
  rename News _ _ _ _ => N1
  refine range_J (n := (p + 1).toNat) (nx := []) (old := _) (fun i ys nx => nx = [] ∧ StrsAre ys (((List.range i).map (endP xs p.toNat)).map S)) (fun g => compK_asn rfl rfl) rfl R1 (small_one (by omega) (by omega) (by omega) (by omega)) ?_ (by rw [sizeLine_eq]; omega) F1 N1 ⟨rfl, .nil⟩ ?_ ?_
  · rw [rangeSize_one]; split <;> omega
  · rintro i ti I oI C oC D m₂ ys nx h tk2 hi ⟨rfl, hy⟩ hC hm₂ F2 N2 off2 ne2 lt2
    clear F1 N1 R1
    refine TestsP.nil_if ?_
    simp only [List.nil_append] at N2
    (try dsimp only)
    k_steps
    refine ⟨?_⟩
    refine sl_ss F2 N2 (by omega) (by omega) (by omega) (by omega) fun h3 _ _ F3 N3 => ?_
    rw [end_eq (p := p.toNat) (k := i) (by omega) (by omega)]
    (try dsimp only)
    refine CTurn.n0 F3 N3 (fun p hp => hp) ⟨rfl, ?_⟩
    rw [List.range_succ, List.map_append, List.map_append]
    exact hy.append' (.cons _ _ .nil)
  · rintro D h tk2 ys nx ⟨rfl, hy⟩ F2 N2 off2
    clear F1 N1 R1
    simp only [List.nil_append] at N2
    (try dsimp only)
    k_steps
    refine ⟨?_⟩
    rename Fr _ _ _ _ => F3
    rename News _ _ _ _ => N3
    have hn : (p + 1).toNat = p.toNat + 1 := by omega
    rw [hn] at hy
    have hyl := hy.length
    simp only [List.length_map, List.length_range] at hyl
    refine list_J (nx := []) (old := _) (fun i zs nx => nx = [] ∧ StrsAre zs ((((((List.range (p.toNat + 1)).map (endP xs p.toNat)).take i)).filter (isNew xs p.toNat)).map S)) (fun g => compK_ev) rfl (listO_is (N3.get (.head _))) (by rw [sizeLine_eq]; omega) ?_ F3 N3 ⟨rfl, .nil⟩ ?_ ?_
    · rintro i zs nx h4 _ ⟨rfl, _⟩ F4 N4 o e
      rw [N3.get (.head _)] at e
      cases e
      exact N4.get (.head _)
    · rintro i v I oI C oC D2 m₃ zs nx h4 tk4 hi hv ⟨rfl, hz⟩ hC hm₃ hl4 F4 N4 off4 ne4 lt4
      obtain ⟨e, te, rfl, hei⟩ := strs_ofS hy hv
      have hel : e.length ≤ 2 ^ 10 := by
        obtain ⟨k, _, rfl⟩ := List.mem_map.mp (List.mem_of_getElem? hei)
        unfold endP
        rw [List.length_drop, List.length_take]; omega
      clear F3 N3
      refine TestsP.one_if ?_
      simp only [List.nil_append] at N4
      (try dsimp only)
      k_steps
      refine ⟨?_⟩
      rename Fr _ _ _ _ => F5
      rename News _ _ _ _ => N5
      refine sl_rev F5 N5 (by omega) fun h6 _ _ F6 N6 => ?_
      (try dsimp only)
      k_steps
      refine ⟨?_⟩
      refine eq_S ?_
      (try dsimp only)
      k_steps
      case' _ =>
        refine ⟨?_⟩
        rename e = e.reverse => q1
        rename Fr _ _ _ _ => F7
        rename News _ _ _ _ => N7
        refine sl_to F7 N7 (by omega) (by omega) (by omega) fun h8 _ _ F8 N8 => ?_
        (try dsimp only)
        k_steps
        refine ⟨?_⟩
        refine notin_S ?_
        have hh : isNew xs p.toNat e = !isIn e (xs.take p.toNat) := by rw [isNew, decide_eq_true q1, Bool.true_and]
        rw [← hh]
        (try dsimp only)
        k_steps
        case _ =>
          rename isNew xs p.toNat e = true => q2
          rename Fr _ _ _ _ => F9
          rename News _ _ _ _ => N9
          refine CTurn.n0 F9 N9 (fun p hp => hp) ⟨rfl, ?_⟩
          rw [List.take_add_one, hei, Option.toList_some, List.filter_append, List.filter_cons, if_pos q2, List.filter_nil, List.map_append]
          exact hz.append' (.cons _ _ .nil)
        case _ =>
          rename isNew xs p.toNat e = false => q2
          rename Fr _ _ _ _ => F9
          rename News _ _ _ _ => N9
          refine CTurn.n0 F9 N9 (fun p hp => hp) ⟨rfl, ?_⟩
          rw [List.take_add_one, hei, Option.toList_some, List.filter_append, List.filter_cons, if_neg (by rw [q2]; decide), List.filter_nil, List.append_nil]
          exact hz
      case _ =>
        rename ¬ e = e.reverse => q1
        rename Fr _ _ _ _ => F9
        rename News _ _ _ _ => N9
        have q2 : isNew xs p.toNat e = false := by rw [isNew, decide_eq_false q1, Bool.false_and]
        refine CTurn.n0 F9 N9 (fun p hp => hp) ⟨rfl, ?_⟩
        rw [List.take_add_one, hei, Option.toList_some, List.filter_append, List.filter_cons, if_neg (by rw [q2]; decide), List.filter_nil, List.append_nil]
        exact hz
    · rintro D2 h4 tk4 zs nx ⟨rfl, hz⟩ F4 N4 off4
      clear F3 N3
      rw [hyl, List.take_of_length_le (by simp)] at hz
      simp only [List.nil_append] at N4
      (try dsimp only)
      k_steps
      rename Fr _ _ _ _ => F5
      rename News _ _ _ _ => N5
      (try dsimp only)
      exact Back.intro F5 ⟨_, _, _, rfl, Fresh.one N5 (.head _), hz⟩
end Mine
end
section
open PySem PyProof.Rows
namespace Mine
/-- the text whose table tells the mirror -/
def tabT (sf : List Nat) : List Nat := sf.reverse ++ 47 :: sf
def lpsN (sf : List Nat) : Nat := lb (tabT sf) (tabT sf).length
theorem tabT_len (sf : List Nat) : (tabT sf).length = 2 * sf.length + 1 := by
  unfold tabT; rw [List.length_append, List.length_reverse, List.length_cons]; omega
/-- a text that reads the same from behind -/
abbrev pal (e : List Nat) : Prop := e = e.reverse
theorem isB_pal {sf : List Nat} {k : Nat} (hk : k ≤ sf.length) : isB (tabT sf) (tabT sf).length k = true ↔ pal (sf.drop (sf.length - k)) := by
  unfold isB pal
  rw [decide_eq_true_eq, List.take_length]
  have e1 : (tabT sf).take k = (sf.drop (sf.length - k)).reverse := by
    unfold tabT
    rw [List.take_append_of_le_length (by rw [List.length_reverse]; exact hk), List.reverse_drop]
    congr 1; omega
  have e2 : (tabT sf).drop ((tabT sf).length - k) = sf.drop (sf.length - k) := by
    rw [tabT_len]
    unfold tabT
    rw [show sf.reverse ++ 47 :: sf = (sf.reverse ++ [47]) ++ sf by simp, List.drop_append, List.drop_of_length_le (by simp; omega), List.nil_append]
    congr 1
    rw [List.length_append, List.length_reverse, List.length_singleton]; omega
  rw [e1, e2]
  exact eq_comm
theorem isB_big {sf : List Nat} (h47 : 47 ∉ sf) {k : Nat} (h1 : sf.length < k) (h2 : k < (tabT sf).length) : isB (tabT sf) (tabT sf).length k = false := by
  rw [← Bool.not_eq_true]
  intro h
  rw [isB_iff (Nat.le_refl _) (by omega)] at h
  have := h sf.length h1
  rw [tabT_len] at h2 this
  have e1 : (tabT sf)[sf.length]? = some 47 := by
    unfold tabT
    rw [List.getElem?_append_right (by simp)]; simp
  rw [e1] at this
  have e2 : (tabT sf)[2 * sf.length + 1 - k + sf.length]? = sf[2 * sf.length - k]? := by
    unfold tabT
    rw [List.getElem?_append_right (by rw [List.length_reverse]; omega), List.length_reverse, show 2 * sf.length + 1 - k + sf.length - sf.length = (2 * sf.length - k) + 1 by omega, List.getElem?_cons_succ]
  rw [e2] at this
  exact h47 (List.mem_of_getElem? this.symm)
theorem lpsN_spec {sf : List Nat} (h47 : 47 ∉ sf) : lpsN sf ≤ sf.length ∧ pal (sf.drop (sf.length - lpsN sf)) ∧ ∀ k, k ≤ sf.length → pal (sf.drop (sf.length - k)) → k ≤ lpsN sf := by
  have h0 := lb_mem (tabT sf) (j := (tabT sf).length) (by rw [tabT_len]; omega)
  have hle : lpsN sf ≤ sf.length := by
    by_cases q : lpsN sf ≤ sf.length
    · exact q
    · have := isB_big h47 (Nat.lt_of_not_le q) h0.1
      have h2 := h0.2
      unfold lpsN at this
      rw [this] at h2; cases h2
  refine ⟨hle, (isB_pal hle).mp h0.2, fun k hk hp => ?_⟩
  exact lb_ge _ (by rw [tabT_len]; omega) ((isB_pal hk).mpr hp)
theorem lpsN_pos {sf : List Nat} (h47 : 47 ∉ sf) (h : sf ≠ []) : 1 ≤ lpsN sf := by
  have hl : 0 < sf.length := List.length_pos_iff.mpr h
  refine (lpsN_spec h47).2.2 1 (by omega) ?_
  have : (sf.drop (sf.length - 1)).length = 1 := by rw [List.length_drop]; omega
  obtain ⟨a, e⟩ := List.length_eq_one_iff.mp this
  rw [e]; rfl
end Mine
end
section
open PySem PyProof.Rows
namespace Mine
theorem lo_up {c : Nat} (h : 97 ≤ c ∧ c < 100) : lo1 c = c ∧ lo1 (up1 c) = c := by
  have e : c = 97 ∨ c = 98 ∨ c = 99 := by omega
  rcases e with rfl | rfl | rfl <;> decide
theorem map_lo {xs : List Nat} (h : abc xs) : xs.map lo1 = xs := by
  have : xs.map lo1 = xs.map id := List.map_congr_left fun c hc => (lo_up (h c hc)).1
  rw [this, List.map_id]
theorem map_up_lo {xs : List Nat} (h : abc xs) : (xs.map up1).map lo1 = xs := by
  rw [List.map_map]
  have : xs.map (lo1 ∘ up1) = xs.map id := List.map_congr_left fun c hc => (lo_up (h c hc)).2
  rw [this, List.map_id]
theorem up_47 {xs : List Nat} (h : abc xs) : 47 ∉ xs.map up1 := by
  intro q
  obtain ⟨c, hc, e⟩ := List.mem_map.mp q
  have := h c hc
  unfold up1 at e
  split at e <;> omega
theorem isIn_star {m A : List Nat} (h : 42 ∉ m) : isIn m (A ++ [42]) = isIn m A := by
  rw [← Bool.coe_iff_coe, isIn_iff, isIn_iff]
  constructor
  · rintro ⟨a, b, e⟩
    rcases List.eq_nil_or_concat b with rfl | ⟨b', c, rfl⟩
    · rw [List.append_nil] at e
      rcases List.eq_nil_or_concat m with rfl | ⟨m', c, rfl⟩
      · exact List.nil_infix
      · rw [List.concat_eq_append] at e h ⊢
        rw [← List.append_assoc] at e
        have := (List.append_inj' e rfl).2
        simp at this
        exact absurd (by rw [this]; simp) h
    · rw [List.concat_eq_append, ← List.append_assoc] at e
      exact ⟨a, b', (List.append_inj' e rfl).1⟩
  · rintro ⟨a, b, e⟩
    exact ⟨a, b ++ [42], by rw [← e]; simp⟩
theorem isIn_d {A : List Nat} (h : abc A) : isIn [100] (A ++ [42]) = false := by
  rw [isIn_star (by decide), ← Bool.not_eq_true, isIn_iff]
  rintro ⟨a, b, e⟩
  have := h 100 (by rw [← e]; simp)
  omega
theorem abc_42 {xs : List Nat} (h : abc xs) : 42 ∉ xs := fun q => by have := h 42 q; omega
theorem hit_mir {m A u v : List Nat} (hm : abc m) (hn : m ≠ []) (hA : abc A) (hu : u = A ∨ u = A.map up1) (hv : v = m ∨ v = m.map up1) (r : List Nat) : hitP (u ++ [42, 47] ++ r) v = isIn m A := by
  have e1 : (u ++ [42, 47] ++ r).takeWhile (· != 47) = u ++ [42] := by
    rw [show u ++ [42, 47] ++ r = (u ++ [42]) ++ 47 :: r by simp]
    refine takeWhile_cut fun q => ?_
    rcases List.mem_append.mp q with q | q
    · rcases hu with rfl | rfl
      · have := hA 47 q; omega
      · exact up_47 hA q
    · simp at q
  have e2 : (u ++ [42]).map lo1 = A ++ [42] := by
    rw [List.map_append]
    rcases hu with rfl | rfl
    · rw [map_lo hA]; rfl
    · rw [map_up_lo hA]; rfl
  have e3 : v.map lo1 = m := by
    rcases hv with rfl | rfl
    · exact map_lo hm
    · exact map_up_lo hm
  have e4 : v ≠ [42] := by
    intro e
    rw [e] at e3
    have : m = [42] := e3.symm
    rw [this] at hm
    have := hm 42 (.head _); omega
  unfold hitP
  rw [e1, e2, e3, decide_eq_true e4, Bool.true_and, isIn_star (abc_42 hm)]
theorem hit_d {A u : List Nat} (hA : abc A) (hu : u = A ∨ u = A.map up1) (r : List Nat) : hitP (u ++ [42, 47] ++ r) [100] = false := by
  have e1 : (u ++ [42, 47] ++ r).takeWhile (· != 47) = u ++ [42] := by
    rw [show u ++ [42, 47] ++ r = (u ++ [42]) ++ 47 :: r by simp]
    refine takeWhile_cut fun q => ?_
    rcases List.mem_append.mp q with q | q
    · rcases hu with rfl | rfl
      · have := hA 47 q; omega
      · exact up_47 hA q
    · simp at q
  have e2 : (u ++ [42]).map lo1 = A ++ [42] := by
    rw [List.map_append]
    rcases hu with rfl | rfl
    · rw [map_lo hA]; rfl
    · rw [map_up_lo hA]; rfl
  unfold hitP
  rw [e1, e2, show [100].map lo1 = [100] from by decide, isIn_d hA, Bool.and_false]
theorem stood_even {m A r : List Nat} (hm : abc m) (hn : m ≠ []) (hA : abc A) : applP [[42], [100], m.map up1] (A ++ [42, 47] ++ r) = isIn m A := by
  unfold applP
  rw [List.any_cons, List.any_cons, List.any_cons, List.any_nil, hit_d hA (.inl rfl), hit_mir hm hn hA (.inl rfl) (.inr rfl)]
  show (hitP _ [42] || _) = _
  have : hitP (A ++ [42, 47] ++ r) [42] = false := by unfold hitP; rw [decide_eq_false (by decide), Bool.false_and]
  rw [this]; simp
theorem stood_odd {m A r : List Nat} (hm : abc m) (hn : m ≠ []) (hA : abc A) : applP [[42], m, [100]] (A.map up1 ++ [42, 47] ++ r) = isIn m A := by
  unfold applP
  rw [List.any_cons, List.any_cons, List.any_cons, List.any_nil, hit_d hA (.inr rfl), hit_mir hm hn hA (.inr rfl) (.inl rfl)]
  have : hitP (A.map up1 ++ [42, 47] ++ r) [42] = false := by unfold hitP; rw [decide_eq_false (by decide), Bool.false_and]
  rw [this]; simp
theorem hit_own {sf m v : List Nat} (hs : abc sf) (hm : abc m) (hn : m ≠ []) (hi : isIn m sf = true) (hv : v = m ∨ v = m.map up1) : hitP sf v = true := by
  have e3 : v.map lo1 = m := by
    rcases hv with rfl | rfl
    · exact map_lo hm
    · exact map_up_lo hm
  have e4 : v ≠ [42] := by
    intro e
    rw [e] at e3
    have : m = [42] := e3.symm
    rw [this] at hm
    have := hm 42 (.head _); omega
  unfold hitP
  rw [takeWhile_all (fun q => by have := hs 47 q; omega), map_lo hs, e3, decide_eq_true e4, hi]; rfl
theorem held_P {sf m : List Nat} {ags : List (List Nat)} (hs : abc sf) (hm : abc m) (hn : m ≠ []) (hi : isIn m sf = true) (h : ags = [[42], [100], m.map up1] ∨ ags = [[42], m, [100]]) : applP ags sf = true := by
  unfold applP
  rw [List.any_eq_true]
  rcases h with rfl | rfl
  · exact ⟨m.map up1, by simp, hit_own hs hm hn hi (.inr rfl)⟩
  · exact ⟨m, by simp, hit_own hs hm hn hi (.inl rfl)⟩
end Mine
end
section
open PySem PyProof.Rows
namespace Mine
def mirP (xs : List Nat) (p : Nat) : List Nat := (xs.take (p + 1)).drop (p + 1 - lpsN (xs.take (p + 1)))
def stoodP (xs : List Nat) (p : Nat) : Bool := isIn (mirP xs p) (xs.take p)
theorem filter_one {n j : Nat} {P : Nat → Bool} (hj : j < n) (h : ∀ k, k < n → k ≠ j → P k = false) : (List.range n).filter P = if P j then [j] else [] := by
  induction n with
  | zero => omega
  | succ n ih =>
    rw [List.range_succ, List.filter_append]
    by_cases e : j = n
    · subst e
      have h0 : (List.range j).filter P = [] := by
        rw [List.filter_eq_nil_iff]
        intro k hk
        rw [List.mem_range] at hk
        rw [h k (by omega) (by omega)]; decide
      rw [h0, List.nil_append, List.filter_cons, List.filter_nil]
    · rw [ih (by omega) fun k hk => h k (by omega), List.filter_cons, h n (by omega) (Ne.symm e), List.filter_nil]
      simp
/-- a shorter palindromic end stands ahead as well -/
theorem pal_ahead {sf : List Nat} {a b : Nat} (hab : a < b) (hb : b < sf.length) (h1 : pal (sf.drop a)) (h2 : pal (sf.drop b)) : sf.drop b <:+: sf.take (sf.length - 1) := by
  have e : sf.drop b = (sf.drop a).take (sf.length - b) := by
    have h3 : (sf.drop a).drop (b - a) = sf.drop b := by rw [List.drop_drop]; congr 1; omega
    have h4 : ((sf.drop a).drop (b - a)).reverse = (sf.drop a).reverse.take (sf.length - b) := by
      rw [List.reverse_drop]
      congr 1
      rw [List.length_drop]; omega
    rw [h3] at h4
    rw [h2, h4, ← h1]
  rw [e, List.take_drop]
  refine ⟨sf.take a, (sf.take (sf.length - 1)).drop (a + (sf.length - b)), ?_⟩
  have h5 : (sf.take (a + (sf.length - b))).drop a = ((sf.take (sf.length - 1)).take (a + (sf.length - b))).drop a := by
    rw [List.take_take, Nat.min_eq_left (by omega)]
  have h6 : sf.take a = ((sf.take (sf.length - 1)).take (a + (sf.length - b))).take a := by
    rw [List.take_take, List.take_take]
    congr 1; omega
  rw [h5, h6, List.take_append_drop, List.take_append_drop]
/-- Droubay, Justin, Pirillo: each place brings at most one new mirror, the longest that ends there -/
theorem newP_eq {xs : List Nat} (hx : abc xs) {p : Nat} (hp : p < xs.length) : newP xs p = if stoodP xs p then [] else [mirP xs p] := by
  have hl : (xs.take (p + 1)).length = p + 1 := by rw [List.length_take]; omega
  have hs : abc (xs.take (p + 1)) := fun c hc => hx c (List.mem_of_mem_take hc)
  have h47 : 47 ∉ xs.take (p + 1) := fun q => by have := hs 47 q; omega
  obtain ⟨hle, hpal, hmax⟩ := lpsN_spec h47
  have hpos := lpsN_pos h47 (by intro e; rw [e] at hl; simp at hl)
  have ht : xs.take p = (xs.take (p + 1)).take ((xs.take (p + 1)).length - 1) := by
    rw [List.take_take, hl]; congr 1; omega
  unfold newP
  rw [List.filter_map]
  have hm : endP xs p (p + 1 - lpsN (xs.take (p + 1))) = mirP xs p := rfl
  rw [filter_one (j := p + 1 - lpsN (xs.take (p + 1))) (by omega)]
  · show List.map _ (if isNew xs p (endP xs p _) = true then _ else _) = _
    rw [hm]
    have : isNew xs p (mirP xs p) = !stoodP xs p := by
      unfold isNew stoodP
      rw [show decide (mirP xs p = (mirP xs p).reverse) = true from decide_eq_true (by
        have := hpal
        rw [hl] at this; exact this), Bool.true_and]
    rw [this]
    cases stoodP xs p <;> rfl
  · intro k hk hne
    show isNew xs p (endP xs p k) = false
    unfold isNew endP
    by_cases hpk : pal ((xs.take (p + 1)).drop k)
    · rw [decide_eq_true hpk, Bool.true_and]
      have hk2 := hmax (p + 1 - k) (by omega) (by rw [hl]; rw [show p + 1 - (p + 1 - k) = k by omega]; exact hpk)
      have hin := pal_ahead (a := p + 1 - lpsN (xs.take (p + 1))) (b := k) (by omega) (by omega) (by have := hpal; rw [hl] at this; exact this) hpk
      rw [← ht] at hin
      rw [isIn_iff.mpr hin]; rfl
    · rw [decide_eq_false hpk, Bool.false_and]
end Mine
end
section
open PySem PyProof.Rows
namespace Mine
def mirs (xs : List Nat) (n : Nat) : List (List Nat) := ((List.range n).filter fun p => !stoodP xs p).map (mirP xs)
def sizeP (xs : List Nat) (p : Nat) : Int := if stoodP xs p then 0 else ((mirP xs p).length : Int)
theorem flat_new {xs : List Nat} (hx : abc xs) : ∀ n, n ≤ xs.length → ((List.range n).map (newP xs)).flatten = mirs xs n
  | 0, _ => rfl
  | n + 1, h => by
    rw [List.range_succ, List.map_append, List.flatten_append, flat_new hx n (by omega)]
    unfold mirs
    rw [List.range_succ, List.filter_append, List.map_append]
    congr 1
    rw [List.map_cons, List.map_nil, newP_eq hx (by omega), List.filter_cons, List.filter_nil]
    cases stoodP xs n <;> simp
theorem size_new {xs : List Nat} (hx : abc xs) {p : Nat} (hp : p < xs.length) : ((newP xs p).map fun e => (e.length : Int)).sum = sizeP xs p := by
  rw [newP_eq hx hp]
  unfold sizeP
  cases stoodP xs p <;> simp
theorem mirP_infix {xs : List Nat} {p n : Nat} (hp : p < n) : mirP xs p <:+: xs.take n := by
  have h1 : mirP xs p <:+: xs.take (p + 1) := (List.drop_suffix _ _).isInfix
  have h2 : xs.take (p + 1) <:+: xs.take n := by
    have : xs.take (p + 1) = (xs.take n).take (p + 1) := by rw [List.take_take]; congr 1; omega
    rw [this]; exact (List.take_prefix _ _).isInfix
  exact h1.trans h2
theorem mirP_ne {xs : List Nat} (hx : abc xs) {p : Nat} (hp : p < xs.length) : mirP xs p ≠ [] ∧ pal (mirP xs p) := by
  have hl : (xs.take (p + 1)).length = p + 1 := by rw [List.length_take]; omega
  have hs : abc (xs.take (p + 1)) := fun c hc => hx c (List.mem_of_mem_take hc)
  have h47 : 47 ∉ xs.take (p + 1) := fun q => by have := hs 47 q; omega
  obtain ⟨hle, hpal, hmax⟩ := lpsN_spec h47
  have hpos := lpsN_pos h47 (by intro e; rw [e] at hl; simp at hl)
  rw [hl] at hpal hle
  refine ⟨fun e => ?_, hpal⟩
  have := congrArg List.length e
  unfold mirP at this
  rw [List.length_drop, hl, List.length_nil] at this
  omega
theorem first_end {e xs : List Nat} (he : e ≠ []) : ∀ n, n ≤ xs.length → e <:+: xs.take n → ∃ p, p < n ∧ e <:+ xs.take (p + 1) ∧ ¬ e <:+: xs.take p
  | 0, _, h => by
    rw [List.take_zero] at h
    exact absurd (List.eq_nil_of_infix_nil h) he
  | n + 1, hn, h => by
    by_cases q : e <:+: xs.take n
    · obtain ⟨p, hp, h1, h2⟩ := first_end he n (by omega) q
      exact ⟨p, by omega, h1, h2⟩
    · refine ⟨n, by omega, ?_, q⟩
      obtain ⟨a, b, hab⟩ := h
      rcases List.eq_nil_or_concat b with rfl | ⟨b', c, rfl⟩
      · exact ⟨a, by simpa using hab⟩
      · exfalso
        apply q
        rw [List.concat_eq_append, ← List.append_assoc] at hab
        have h3 : xs.take (n + 1) = xs.take n ++ [xs[n]] := by rw [List.take_succ_eq_append_getElem (by omega)]
        rw [h3] at hab
        exact ⟨a, b', (List.append_inj' hab rfl).1⟩
theorem mem_mirs {xs : List Nat} (hx : abc xs) {n : Nat} (hn : n ≤ xs.length) {e : List Nat} : e ∈ mirs xs n ↔ e ≠ [] ∧ pal e ∧ e <:+: xs.take n := by
  constructor
  · intro h
    obtain ⟨p, hp, rfl⟩ := List.mem_map.mp h
    have hp' := List.mem_range.mp (List.mem_filter.mp hp).1
    obtain ⟨h1, h2⟩ := mirP_ne hx (p := p) (by omega)
    exact ⟨h1, h2, mirP_infix hp'⟩
  · rintro ⟨h1, h2, h3⟩
    obtain ⟨p, hp, h4, h5⟩ := first_end h1 n hn h3
    have hmem : e ∈ newP xs p := by
      unfold newP
      rw [List.mem_filter]
      refine ⟨List.mem_map.mpr ⟨p + 1 - e.length, List.mem_range.mpr (by have := List.length_pos_iff.mpr h1; omega), ?_⟩, ?_⟩
      · unfold endP
        have hl : (xs.take (p + 1)).length = p + 1 := by rw [List.length_take]; omega
        obtain ⟨a, ha⟩ := h4
        rw [← ha] at hl ⊢
        rw [List.length_append] at hl
        rw [show p + 1 - e.length = a.length by omega, List.drop_left]
      · unfold isNew
        rw [decide_eq_true h2, Bool.true_and]
        cases q : isIn e (xs.take p) with
        | false => rfl
        | true => exact absurd (isIn_iff.mp q) h5
    rw [newP_eq hx (by omega)] at hmem
    cases q : stoodP xs p with
    | true => rw [q] at hmem; simp at hmem
    | false =>
      rw [q] at hmem
      have : e = mirP xs p := by simpa using hmem
      rw [this]
      exact List.mem_map.mpr ⟨p, List.mem_filter.mpr ⟨List.mem_range.mpr hp, by rw [q]; rfl⟩, rfl⟩
end Mine
end
section
open PySem PyProof.Rows
namespace Mine
abbrev starred (l : List (List Nat)) : List (List Nat) := [42] :: l ++ [[42]]
theorem infix_rev {e xs : List Nat} (h : pal e) : e <:+: xs.reverse ↔ e <:+: xs := by
  constructor
  · intro q
    have := List.reverse_infix.mpr q
    rw [List.reverse_reverse, ← h] at this
    exact this
  · intro q
    have := List.reverse_infix.mpr q
    rw [← h] at this
    exact this
section
variable {row : List Nat} {kept : Nat}
theorem turned_len (hk : kept ≤ row.length) : (row.take kept).reverse.length = kept := by
  rw [List.length_reverse, List.length_take]; omega
theorem turned_abc (hx : abc row) : abc (row.take kept).reverse := fun c hc => hx c (List.mem_of_mem_take (List.mem_reverse.mp hc))
theorem mem_turned (hx : abc row) (hk : kept ≤ row.length) {e : List Nat} : e ∈ mirs (row.take kept).reverse kept ↔ e ≠ [] ∧ pal e ∧ e <:+: row.take kept := by
  rw [mem_mirs (turned_abc hx) (by rw [turned_len hk]; exact Nat.le_refl _), List.take_of_length_le (by rw [turned_len hk]; exact Nat.le_refl _)]
  refine and_congr_right fun _ => and_congr_right fun h => infix_rev h
theorem left_mirs (hx : abc row) (hk : kept ≤ row.length) : (mirs row row.length).filter (fun e => decide (e ∈ mirs (row.take kept).reverse kept)) = mirs row kept := by
  unfold mirs
  rw [List.filter_map, List.filter_filter]
  congr 1
  have : (List.range row.length).filter (fun p => ((fun e => decide (e ∈ mirs (row.take kept).reverse kept)) ∘ mirP row) p && !stoodP row p) = (List.range row.length).filter (fun p => decide (p < kept) && !stoodP row p) := by
    refine List.filter_congr fun p hp => ?_
    rw [List.mem_range] at hp
    cases q : stoodP row p with
    | true => simp
    | false =>
      rw [Bool.not_false, Bool.and_true, Bool.and_true]
      show decide (mirP row p ∈ mirs (row.take kept).reverse kept) = decide (p < kept)
      rw [decide_eq_decide, mem_turned hx hk]
      obtain ⟨h1, h2⟩ := mirP_ne hx hp
      constructor
      · rintro ⟨_, _, h3⟩
        by_cases hpk : p < kept
        · exact hpk
        · exfalso
          have h4 : row.take kept <:+: row.take p := by
            have : row.take kept = (row.take p).take kept := by rw [List.take_take]; congr 1; omega
            rw [this]; exact (List.take_prefix _ _).isInfix
          have := isIn_iff.mpr (h3.trans h4)
          unfold stoodP at q
          rw [this] at q; cases q
      · exact fun hpk => ⟨h1, h2, mirP_infix hpk⟩
  show List.filter (fun p => ((fun e => decide (e ∈ mirs (row.take kept).reverse kept)) ∘ mirP row) p && !stoodP row p) (List.range row.length) = _
  rw [this]
  rw [show List.range row.length = List.range kept ++ (List.range (row.length - kept)).map (kept + ·) by rw [← List.range_add]; congr 1; omega, List.filter_append]
  rw [List.filter_congr (q := fun p => !stoodP row p) (l := List.range kept) (fun p hp => by rw [decide_eq_true (List.mem_range.mp hp), Bool.true_and])]
  have h0 : ((List.range (row.length - kept)).map (kept + ·)).filter (fun p => decide (p < kept) && !stoodP row p) = [] := by
    rw [List.filter_eq_nil_iff]
    intro p hp
    obtain ⟨k, _, rfl⟩ := List.mem_map.mp hp
    rw [decide_eq_false (by omega), Bool.false_and]; decide
  rw [h0, List.append_nil]
theorem right_mirs (hx : abc row) (hk : kept ≤ row.length) : (mirs (row.take kept).reverse kept).filter (fun e => decide (e ∈ mirs row row.length)) = mirs (row.take kept).reverse kept := by
  rw [List.filter_eq_self]
  intro e he
  rw [mem_turned hx hk] at he
  rw [decide_eq_true_eq, mem_mirs hx (Nat.le_refl _), List.take_length]
  exact ⟨he.1, he.2.1, he.2.2.trans (List.take_prefix _ _).isInfix⟩
theorem no_star {xs : List Nat} (hx : abc xs) {n : Nat} (hn : n ≤ xs.length) {e : List Nat} (he : e ∈ mirs xs n) : e ≠ [42] := by
  rintro rfl
  rw [mem_mirs hx hn] at he
  have := hx 42 (List.mem_of_mem_take (he.2.2.subset (.head _)))
  omega
theorem filter_starred {l1 l2 : List (List Nat)} (h1 : ∀ e ∈ l1, e ≠ [42]) : (starred l1).filter (fun e => decide (e ∈ starred l2)) = starred (l1.filter fun e => decide (e ∈ l2)) := by
  have hs : [42] ∈ starred l2 := by simp [starred]
  show List.filter _ ([42] :: (l1 ++ [[42]])) = [42] :: (_ ++ [[42]])
  rw [List.filter_cons, if_pos (decide_eq_true hs), List.filter_append, List.filter_cons, if_pos (decide_eq_true hs), List.filter_nil]
  congr 2
  refine List.filter_congr fun e he => ?_
  have := h1 e he
  rw [decide_eq_decide]
  simp [starred, this]
end
end Mine
end
section
open PySem PySem.W PySem.Calls PyProof.Rows Mine
set_option Elab.async false
set_option maxRecDepth 100000
set_option maxHeartbeats 4000000
namespace Mine
theorem flat_spec (w : World) (mg mb : Str → Option Value) : PySem.Challenge.rw_wn0034_02.row.prog = pr1 → ∀ s : Shared, (hd2.heap_39 w.params).In s.heap → TR1 mg mb s.heap →
    ∀ (l : Addr) (as : List Addr) (vss : List (List Value)), s.heap.IsList l (List.toArray (as.map Value.ref)) → as.length = vss.length → (∀ (i : Nat) (a : Addr) (vs : List Value), as[i]? = some a → vss[i]? = some vs → s.heap.IsList a vs.toArray) → vss.flatten.length ≤ 2 ^ 10 →
    Fn 30 pr1 w 113 [.ref l] (fun v h => ∃ z n t1 t2, v = .ref z ∧ Fresh s.heap h [(z, W.listOf (List.toArray (.str (Str.ofString "*") t1 :: vss.flatten ++ [.str (Str.ofString "*") t2])) n)]) s := by
  k_with_none
  k_with "call ref" => refine Halt.out ?_
  k_with "pyIter ref" => refine Halt.out ?_
  k_with "binaryOp Add ref ref" => refine Halt.out ?_
  k_with "call builtin:list.append" => (k_here; k_dflt (refine append_own (by k_asm) (by k_asm) (by k_upd) (by ((try simp only [List.length_append, List.length_cons, List.length_nil]); omega)) ?_; k_whole); intro h' F' N'; (try k_sweep))
  k_with "loadName" => (k_here; k_dflt (refine loadX_L (by k_asm) (by assumption) ?_; k_whole))
  k_with "exec For Name Call cons nil" => k_dflt (refine wpAny_For ?_)
  k_with "exec For Name Name cons nil" => k_dflt (refine wpAny_For ?_)
  k_with "exec For Name Attribute cons nil" => k_dflt (refine wpAny_For ?_)
  k_with "exec For Name Subscript cons nil" => k_dflt (refine wpAny_For ?_)
  k_with "eval Name" => (k_here; k_dflt (refine nameX_L (by k_asm) (by assumption) ?_; k_whole))
  k_with "exec If" => refine wpAny_If ?_
  k_with "eval ListComp" => k_dflt (refine Comp_ev2 (by with_unfolding_all rfl) (by rfl) (by decide) ?_)
  k_fill
  intro _ s X T l as vss hl hlen hi hb
  k_dflt (refine' Fn.of_body (binds := [(Str.ofString "rows", .ref l)]) (K := hd2.heap_39 w.params) X T.nolimit ?k1 ?k2 ?k3 ?k4 ?_ ?c1 ?c2 ?c3 ?c4)
  case k1 => k_is
  case k2 => k_is
  case k3 => exact BindsTo.of_eq rfl
  case k4 => exact locs rfl
  case c1 => exact rfl
  case c2 => exact rfl
  case c3 => exact rfl
  case c4 => decide
  intro dp un fr gd L h₁ hdp hun F
  have N : News s.heap L h₁ [] := News.nil
  (try dsimp only)
  k_unmd
  k_fold
  k_steps
  refine ⟨?_⟩
  rename Fr _ _ _ _ => F1
  rename News _ _ _ _ => N1
  refine flat_J rfl (hl.at fun o e => F1.keep _ o e) hlen (fun i a vs ha hv => (hi i a vs ha hv).at fun o e => F1.keep _ o e) (by rw [sizeLine_eq]; omega) F1 N1 fun D h2 tk2 F2 N2 off2 => ?_
  clear F1 N1
  (try dsimp only)
  k_steps
  refine ⟨?_⟩
  refine add_K F2 N2 (vs := [.str (Str.ofString "*") _]) (listO_is (N2.get (.tail _ (.head _)))) (listO_is (N2.get (.head _))) (by simp only [List.length_append, List.length_cons, List.length_nil]; omega) fun D2 h3 F3 N3 lt3 => ?_
  clear F2 N2 off2
  k_lt lt3
  (try dsimp only)
  k_steps
  refine ⟨?_⟩
  rename Fr _ _ _ _ => F4
  rename News _ _ _ _ => N4
  refine add_K F4 N4 (ws := [.str (Str.ofString "*") _]) (listO_is (N4.get (.tail _ (.head _)))) (listO_is (N4.get (.head _))) (by simp only [List.length_append, List.length_cons, List.length_nil]; omega) fun D3 h5 F5 N5 lt5 => ?_
  clear F4 N4
  (try dsimp only)
  k_steps
  rename Fr _ _ _ _ => F6
  rename News _ _ _ _ => N6
  exact Back.intro F6 ⟨_, _, _, _, rfl, Fresh.one N6 (.head _)⟩
end Mine
end
section
open PySem PySem.W PySem.Calls PyProof.Rows Mine
set_option Elab.async false
set_option maxRecDepth 100000
set_option maxHeartbeats 4000000
namespace Mine
theorem hag_even (m : List Nat) (t1 t2 t3 : Tok) : StrsAre ([.str (Str.ofString "*") t1, .str (Str.ofString "d") t2, .str (S (m.map up1)) t3] : List Value) ([[42], [100], m.map up1].map S) := by
  show StrsAre _ [S [42], S [100], S _]
  rw [show S [42] = Str.ofString "*" from by decide +kernel, show S [100] = Str.ofString "d" from by decide +kernel]
  exact .cons _ _ (.cons _ _ (.cons _ _ .nil))
theorem hag_odd (m : List Nat) (t1 t2 t3 : Tok) : StrsAre ([.str (Str.ofString "*") t1, .str (S m) t2, .str (Str.ofString "d") t3] : List Value) ([[42], m, [100]].map S) := by
  show StrsAre _ [S [42], S _, S [100]]
  rw [show S [42] = Str.ofString "*" from by decide +kernel, show S [100] = Str.ofString "d" from by decide +kernel]
  exact .cons _ _ (.cons _ _ (.cons _ _ .nil))
theorem ags_ok {m : List Nat} {ags : List (List Nat)} (hl : m.length ≤ 16) (hm : abc m) (h : ags = [[42], [100], m.map up1] ∨ ags = [[42], m, [100]]) : ∀ a ∈ ags, a.length ≤ 2 ^ 10 ∧ ∀ c ∈ a, c < 128 := by
  have h1 : m.length ≤ 2 ^ 10 ∧ ∀ c ∈ m, c < 128 := ⟨by omega, fun c hc => by have := hm c hc; omega⟩
  have h2 : (m.map up1).length ≤ 2 ^ 10 ∧ ∀ c ∈ m.map up1, c < 128 := ⟨by rw [List.length_map]; omega, fun c hc => by
    obtain ⟨d, hd, rfl⟩ := List.mem_map.mp hc
    have := hm d hd
    unfold up1; split <;> omega⟩
  intro a ha
  rcases h with rfl | rfl
  · simp only [List.mem_cons, List.not_mem_nil, or_false] at ha
    rcases ha with rfl | rfl | rfl
    · decide
    · decide
    · exact h2
  · simp only [List.mem_cons, List.not_mem_nil, or_false] at ha
    rcases ha with rfl | rfl | rfl
    · decide
    · exact h1
    · decide
theorem asc_ok {xs u : List Nat} {i : Nat} (hx : abc xs) (h : u = xs.take i ∨ u = (xs.take i).map up1) : ∀ c ∈ u ++ [42, 47] ++ xs ++ [47], c < 128 := by
  have h1 : ∀ c ∈ xs, c < 128 := fun c hc => by have := hx c hc; omega
  have h2 : ∀ c ∈ u, c < 128 := by
    rcases h with rfl | rfl
    · exact fun c hc => h1 c (List.mem_of_mem_take hc)
    · intro c hc
      obtain ⟨d, hd, rfl⟩ := List.mem_map.mp hc
      have := hx d (List.mem_of_mem_take hd)
      unfold up1; split <;> omega
  intro c hc
  simp only [List.mem_append, List.mem_cons, List.not_mem_nil, or_false] at hc
  rcases hc with ((hc | rfl | rfl) | hc) | rfl
  · exact h2 c hc
  · decide
  · decide
  · exact h1 c hc
  · decide
def toldA (xs : List Nat) (i : Nat) : List (List Nat) := [42] :: mirs xs i
def toldR (xs : List Nat) (i : Nat) : List Int := (List.range i).map (sizeP xs)
theorem news_to {h₀ h : Heap} {L : Addr} {z d a r : Addr × Obj} (N : News h₀ L h [z, d, a, r]) : News h₀ L h ([a, r] ++ [z, d]) := fun p hp => N p (by
  simp only [List.cons_append, List.nil_append, List.mem_cons, List.not_mem_nil, or_false] at hp ⊢
  rcases hp with h | h | h | h <;> simp [h])
theorem abc_take {xs : List Nat} (h : abc xs) (n : Nat) : abc (xs.take n) := fun c hc => h c (List.mem_of_mem_take hc)
theorem abc_47 {xs : List Nat} (h : abc xs) : 47 ∉ xs := fun q => by have := h 47 q; omega
theorem toldA_snoc (xs : List Nat) (i : Nat) : toldA xs (i + 1) = if stoodP xs i then toldA xs i else toldA xs i ++ [mirP xs i] := by
  unfold toldA mirs
  rw [List.range_succ, List.filter_append, List.map_append, List.filter_cons, List.filter_nil]
  cases stoodP xs i <;> simp
theorem toldR_snoc (xs : List Nat) (i : Nat) : toldR xs (i + 1) = toldR xs i ++ [sizeP xs i] := by
  unfold toldR
  rw [List.range_succ, List.map_append]; rfl
theorem toldA_len (xs : List Nat) (i : Nat) : (toldA xs i).length ≤ i + 1 := by
  unfold toldA mirs
  rw [List.length_cons, List.length_map]
  have := List.length_filter_le (fun p => !stoodP xs p) (List.range i)
  rw [List.length_range] at this; omega
/-- behind the first If: what stood says, and what asked holds -/
def toMid (w : World) (xs : List Nat) (i : Nat) (s0 : Shared) (h₀ : Heap) (L : Addr) (old : List (Addr × Obj)) (y dy y1 y2 : Addr) (u1 u2 u3 u4 : Tok) (m : Str → Option Value) (f : Flow) (s' : Shared) : Prop :=
  f = .next ∧ ∃ h' tk ya c ags, s' = { s0 with heap := h', toks := tk } ∧ Fr h₀ L h' (fun v => if v = Str.ofString "stood" then some (.bool (stoodP xs i)) else m v) ∧
    News h₀ L h' ((y, instObj 66 dy) :: (dy, entryD w (.ref y1) (.ref y2) .none .none u1 u2 u3 u4) :: (y1, W.listOf (List.toArray ya) c) :: (y2, W.listOf #[] 0) :: old) ∧ StrsAre ya (ags.map S) ∧ (ags = [[42], [100], (mirP xs i).map up1] ∨ ags = [[42], mirP xs i, [100]])
theorem mid_cut {prog : Program} {w : World} {A : Around} {s s0 : Shared} {h₀ hh : Heap} {L : Addr} {m : Str → Option Value} {y dy y1 y2 : Addr} {u1 u2 u3 u4 : Tok} {c1 c2 : Nat} {v1 : Array Value} {old : List (Addr × Obj)} {c : Sem Flow} {Q : Flow → Shared → Prop} (xs : List Nat) (i : Nat) (F : Fr h₀ L hh m)
    (N : News h₀ L hh ((y, instObj 66 dy) :: (dy, entryD w (.ref y1) (.ref y2) .none .none u1 u2 u3 u4) :: (y1, W.listOf v1 c1) :: (y2, W.listOf #[] c2) :: old))
    (h1 : wpAny (model prog w) A c (toMid w xs i s h₀ L old y dy y1 y2 u1 u2 u3 u4 m) F0 s) (h2 : ∀ f s', toMid w xs i s h₀ L old y dy y1 y2 u1 u2 u3 u4 m f s' → Q f s') : wpAny (model prog w) A c Q F0 s :=
  wpAny_mono h1 h2 fun _ _ e => e
def toJ (xs : List Nat) (z la lr : Addr) (i : Nat) (m : Str → Option Value) (nx : List (Addr × Obj)) : Prop :=
  ∃ a r na nr t, nx = [(la, W.listOf (List.toArray a) na), (lr, W.listOf (List.toArray r) nr)] ∧ StrsAre a ((toldA xs i).map S) ∧ IntsAre r (toldR xs i) ∧ m (Str.ofString "record") = some (.ref z) ∧ m (Str.ofString "row") = some (.str (S xs) t)
theorem told_spec (w : World) (mg mb : Str → Option Value) : PySem.Challenge.rw_wn0034_02.row.prog = pr1 → ∀ s : Shared, (hd2.heap_39 w.params).In s.heap → TR1 mg mb s.heap →
    ∀ (tx : Tok) (xs : List Nat), xs.length ≤ 16 → abc xs →
    Fn 60 pr1 w 103 [.str (S xs) tx] (fun v h => ∃ z a r, v = .ref z ∧ IsEntryN w s.heap h z a r ∧ StrsAre a ((toldA xs xs.length ++ [[42]]).map S) ∧ IntsAre r (toldR xs xs.length)) s := by
  k_with_none
  k_with "call ref" => refine Halt.out ?_
  k_with "pyIter ref" => refine Halt.out ?_
  k_with "call builtin:len" => refine Halt.out ?_
  k_with "subscriptTail Name Slice str ref" => refine Halt.out ?_
  k_with "compareOp Eq str str" => refine Halt.out ?_
  k_with "binaryOp Add str str" => refine Halt.out ?_
  k_with "call builtin:str.upper" => refine Halt.out ?_
  k_with "call builtin:list.extend" => refine Halt.out ?_
  k_with "call builtin:list.append" => (k_here; k_dflt (refine append_own (by k_asm) (by k_asm) (by k_upd) (by ((try simp only [List.length_append, List.length_cons, List.length_nil]); omega)) ?_; k_whole); intro h' F' N'; (try k_sweep))
  k_with "loadName" => (k_here; k_dflt (refine loadX_L (by k_asm) (by assumption) ?_; k_whole))
  k_with "exec For Name Call cons nil" => k_dflt (refine wpAny_For ?_)
  k_with "exec For Name Name cons nil" => k_dflt (refine wpAny_For ?_)
  k_with "exec For Name Attribute cons nil" => k_dflt (refine wpAny_For ?_)
  k_with "exec For Name Subscript cons nil" => k_dflt (refine wpAny_For ?_)
  k_with "eval Name" => (k_here; k_dflt (refine nameX_L (by k_asm) (by assumption) ?_; k_whole))
  k_with "exec If" => refine wpAny_If ?_
  k_with "exec If Compare cons cons" => refine Halt.out ?_
  k_fill
  intro _ s X T tx xs hb hx
  k_dflt (refine' Fn.of_body (binds := [(Str.ofString "row", .str (S xs) tx)]) (K := hd2.heap_39 w.params) X T.nolimit ?k1 ?k2 ?k3 ?k4 ?_ ?c1 ?c2 ?c3 ?c4)
  case k1 => k_is
  case k2 => k_is
  case k3 => exact BindsTo.of_eq rfl
  case k4 => exact locs rfl
  case c1 => exact rfl
  case c2 => exact rfl
  case c3 => exact rfl
  case c4 => decide
  intro dp un fr gd L h₁ hdp hun F
  have N : News s.heap L h₁ [] := News.nil
  (try dsimp only)
  k_unmd
  k_fold
  k_steps
  refine ⟨?_⟩
  refine entry_new w rfl mg mb _ _ _ _ _ _ _ rfl ?_ ?_ (by assumption) (by assumption) X T ?_
  · simp only; omega
  · simp only; omega
  intro z dz la lr h2 tk2 t1 t2 t3 t4 F2 N2 hl0 hl1 hl3 hl4
  k_lt2 hl1
  k_lt2 hl3
  k_lt2 hl4
  (try dsimp only)
  have Iz : InstAt h2 z (instObj 66 dz) 66 (some (entryD w (.ref la) (.ref lr) .none .none t1 t2 t3 t4)) := instAt_mk (N2.get (.head _)) (N2.get (.tail _ (.head _)))
  k_steps
  refine ⟨?_⟩
  refine len_S (by omega) fun _ _ => ?_
  (try dsimp only)
  k_steps
  refine ⟨?_⟩
  rename IsRange _ _ _ _ _ _ _ _ => R1
  rename Fr _ _ _ _ => F3
  rename News _ _ _ _ => N3
  refine For_range_J (n := xs.length) (news := [_, _]) (old := [_, _]) (toJ xs z la lr) rfl R1 (small_one (by omega) (by omega) (by omega) (by omega)) ?_ F3 (news_to N3) ⟨_, _, _, _, _, rfl, ?_, .nil, rfl, rfl⟩ ?_ ?_
  · rw [rangeSize_one]; split <;> omega
  · show StrsAre [_] [S [42]]
    rw [show S [42] = Str.ofString "*" from by decide +kernel]
    exact .cons _ _ .nil
  · rintro i ti m₁ nx h tk I oI hi ⟨a, r, na, nr, t, rfl, ha, hr, e1, e2⟩ hI hoff ⟨vs2, hoI⟩ F4 N4
    have hal : a.length ≤ 17 := by have := ha.length; rw [List.length_map] at this; have := toldA_len xs i; omega
    have hrl : r.length ≤ 16 := by have := hr.length; unfold toldR at this; rw [List.length_map, List.length_range] at this; omega
    clear F3 N3 R1
    have f1 := neN (hoff _ (.head _))
    have f2 := neN (hoff _ (.tail _ (.head _)))
    dsimp only at f1 f2
    simp only [List.cons_append, List.nil_append] at N4
    k_unmd
    k_fold
    (try dsimp only)
    k_steps
    refine ⟨?_⟩
    rename Fr _ _ _ _ => F4
    rename News _ _ _ _ => N4
    refine sl_to F4 N4 (by omega) (by omega) (by omega) fun h5 _ _ F5 N5 => ?_
    (try dsimp only)
    k_steps
    refine ⟨?_⟩
    rename Fr _ _ _ _ => F6
    rename News _ _ _ _ => N6
    refine sl_to F6 N6 (by omega) (by omega) (by omega) fun h7 _ _ F7 N7 => ?_
    rw [show (0 + (i : Int)).toNat = i by omega] at F7
    rw [show (0 + (i : Int) + 1).toNat = i + 1 by omega]
    have hsl : (xs.take (i + 1)).length = i + 1 := by rw [List.length_take]; omega
    have hsx := abc_take hx (i + 1)
    generalize hsf : xs.take (i + 1) = sf at hsl hsx
    (try dsimp only)
    k_steps
    refine ⟨?_⟩
    rename Fr _ _ _ _ => F8
    rename News _ _ _ _ => N8
    refine sl_rev F8 N8 (by omega) fun h9 _ _ F9 N9 => ?_
    (try dsimp only)
    k_steps
    refine ⟨?_⟩
    rw [show Str.ofString "/" = S [47] from by decide +kernel]
    refine add_S (by simp; omega) fun _ _ => ?_
    (try dsimp only)
    k_steps
    refine ⟨?_⟩
    refine add_S (by simp; omega) fun _ _ => ?_
    rw [show sf.reverse ++ [47] ++ sf = tabT sf by simp [tabT]]
    (try dsimp only)
    k_steps
    refine ⟨?_⟩
    refine call_Fn (overlap_spec w mg mb rfl _ (X.keeps F9.keep) (T.keeps F9.keep) _ _ (by rw [tabT_len]; omega)) rfl (by simp only; omega) (by simp only; omega) ?_
    rintro v h10 tk10 hk10 ⟨z1, ts, c1, rfl, ez1, iz1⟩
    have F10 := F9.keeps hk10
    have N10 := N9.grown hk10
    (try dsimp only)
    k_steps
    have htl := tabT_len sf
    have hlast : (tabF (tabT sf)).getD ((tabF (tabT sf)).length - 1) 0 = (lpsN sf : Nat) := by
      have hlt : (tabF (tabT sf)).length = (tabT sf).length := by simp [tabF]
      rw [hlt, List.getD_eq_getElem?_getD]
      simp only [tabF, List.getElem?_map, List.getElem?_range (show (tabT sf).length - 1 < (tabT sf).length by omega), Option.map_some, Option.getD_some]
      rw [show (tabT sf).length - 1 + 1 = (tabT sf).length by omega]; rfl
    refine item_last (listO_is ez1) iz1 rfl (by simp [tabF]; omega) fun t11 => ?_
    rw [hlast]
    obtain ⟨hlp, hpal, _⟩ := lpsN_spec (abc_47 hsx)
    have hl1 := lpsN_pos (abc_47 hsx) (by intro e; rw [e] at hsl; simp at hsl)
    rw [hsl] at hlp
    (try dsimp only)
    k_steps
    refine ⟨?_⟩
    rename Fr _ _ _ _ => F11
    rename News _ _ _ _ => N11
    refine sl_from F11 N11 (by omega) (by omega) (by omega) fun h12 _ _ F12 N12 => ?_
    have hmir : sf.drop (0 + (i : Int) + 1 - (lpsN sf : Int)).toNat = mirP xs i := by
      unfold mirP
      rw [hsf]; congr 1; omega
    rw [hmir]
    clear hmir hpal ez1 iz1 hlast htl
    (try dsimp only)
    k_steps
    refine ⟨?_⟩
    rename Fr _ _ _ _ => F13
    rename News _ _ _ _ => N13
    refine entry_new w rfl mg mb _ _ _ _ _ _ _ rfl ?_ ?_ F13 N13 X T ?_
    · simp only; omega
    · simp only; omega
    intro y dy y1 y2 h14 tk14 u1 u2 u3 u4 F14 N14 hm0 hm1 hm3 hm4
    k_lt hm0
    k_lt2 hm1
    k_lt2 hm3
    k_lt2 hm4
    have hml : (mirP xs i).length ≤ 16 := by unfold mirP; rw [List.length_drop, List.length_take]; omega
    have hmx : abc (mirP xs i) := fun c hc => by
      unfold mirP at hc
      exact hx c (List.mem_of_mem_take (List.mem_of_mem_drop hc))
    obtain ⟨hmn, _⟩ := mirP_ne hx hi
    have hmin : isIn (mirP xs i) sf = true := by
      unfold mirP
      rw [hsf]
      exact isIn_iff.mpr (List.drop_suffix _ _).isInfix
    have hmlen : (mirP xs i).length = lpsN sf := by
      unfold mirP
      rw [hsf, List.length_drop, hsl]; omega
    (try dsimp only)
    k_steps
    refine ⟨?_⟩
    rename Fr _ _ _ _ => F15
    rename News _ _ _ _ => N15
    refine mid_cut (s0 := s) xs i F15 N15 ?_ ?_
    · refine wpAny_If ?_
      k_steps
      case' _ =>
        refine ⟨?_⟩
        refine upper_S (fun c hc => by have := hmx c hc; omega) (by omega) fun _ _ => ?_
        (try dsimp only)
        k_steps
        refine ⟨?_⟩
        rename Fr _ _ _ _ => F17
        rename News _ _ _ _ => N17
        refine extend_K (pre := [_, _, _]) F17 N17 (off1 (by k_ne) (off1 (by k_ne) (off1 (by k_ne) off0))) (by k_all) (N17.get (.head _)) (by simp) fun n18 h18 F18 N18 => ?_
        simp only [List.cons_append, List.nil_append] at N18
        (try dsimp only)
        k_steps
        refine ⟨?_⟩
        rw [show Str.ofString "*/" = S [42, 47] from by decide +kernel]
        refine add_S (by simp; omega) fun _ _ => ?_
        (try dsimp only)
        k_steps
        refine ⟨?_⟩
        refine add_S (by simp; omega) fun _ _ => ?_
        (try dsimp only)
        k_steps
        refine ⟨?_⟩
        refine add_S (by simp; omega) fun _ _ => ?_
        (try dsimp only)
        k_steps
        refine ⟨?_⟩
        rename Fr _ _ _ _ => F19
        rename News _ _ _ _ => N19
        refine call_Fn (applies_spec w mg mb rfl _ (X.keeps F19.keep) (T.keeps F19.keep) y _ _ _ (xs.take i ++ [42, 47] ++ xs ++ [47]) _ ⟨dy, y1, y2, _, _, _, _, _, _, N19.get (.tail _ (.head _)), N19.get (.tail _ (.tail _ (.head _))), N19.get (.tail _ (.tail _ (.tail _ (.head _)))), N19.get (.tail _ (.tail _ (.tail _ (.tail _ (.head _)))))⟩ (hag_even _ _ _ _) (by simp) ?_ (by simp; omega) ?_) rfl (by simp only; omega) (by simp only; omega) ?_
        · exact ags_ok hml hmx (.inl rfl)
        · exact asc_ok hx (.inl rfl)
        rintro v h20 tk20 hk20 rfl
        have F20 := F19.keeps hk20
        have N20 := N19.grown hk20
        rw [List.append_assoc _ xs, stood_even hmx hmn (abc_take hx i)]
        clear F19 N19
        (try dsimp only)
        k_steps
        rename Fr _ _ _ _ => F21
        rename News _ _ _ _ => N21
        (try dsimp only)
        exact ⟨rfl, _, _, _, _, _, rfl, F21, fun p hp => N21 p (.tail _ hp), hag_even _ _ _ _, .inl rfl⟩
      case _ =>
        refine ⟨?_⟩
        rename Fr _ _ _ _ => F17
        rename News _ _ _ _ => N17
        refine extend_K (pre := [_, _, _]) F17 N17 (off1 (by k_ne) (off1 (by k_ne) (off1 (by k_ne) off0))) (by k_all) (N17.get (.head _)) (by simp) fun n18 h18 F18 N18 => ?_
        simp only [List.cons_append, List.nil_append] at N18
        (try dsimp only)
        k_steps
        refine ⟨?_⟩
        refine upper_S (fun c hc => by have := hx c (List.mem_of_mem_take hc); omega) (by rw [List.length_take]; omega) fun _ _ => ?_
        (try dsimp only)
        k_steps
        refine ⟨?_⟩
        rw [show Str.ofString "*/" = S [42, 47] from by decide +kernel]
        refine add_S (by simp; omega) fun _ _ => ?_
        (try dsimp only)
        k_steps
        refine ⟨?_⟩
        refine add_S (by simp; omega) fun _ _ => ?_
        (try dsimp only)
        k_steps
        refine ⟨?_⟩
        refine add_S (by simp; omega) fun _ _ => ?_
        (try dsimp only)
        k_steps
        refine ⟨?_⟩
        rename Fr _ _ _ _ => F19
        rename News _ _ _ _ => N19
        refine call_Fn (applies_spec w mg mb rfl _ (X.keeps F19.keep) (T.keeps F19.keep) y _ _ _ ((xs.take i).map up1 ++ [42, 47] ++ xs ++ [47]) _ ⟨dy, y1, y2, _, _, _, _, _, _, N19.get (.tail _ (.head _)), N19.get (.tail _ (.tail _ (.head _))), N19.get (.tail _ (.tail _ (.tail _ (.head _)))), N19.get (.tail _ (.tail _ (.tail _ (.tail _ (.head _)))))⟩ (hag_odd _ _ _ _) (by simp) ?_ (by simp; omega) ?_) rfl (by simp only; omega) (by simp only; omega) ?_
        · exact ags_ok hml hmx (.inr rfl)
        · exact asc_ok hx (.inr rfl)
        rintro v h20 tk20 hk20 rfl
        have F20 := F19.keeps hk20
        have N20 := N19.grown hk20
        rw [List.append_assoc _ xs, stood_odd hmx hmn (abc_take hx i)]
        clear F19 N19
        (try dsimp only)
        k_steps
        rename Fr _ _ _ _ => F21
        rename News _ _ _ _ => N21
        (try dsimp only)
        exact ⟨rfl, _, _, _, _, _, rfl, F21, fun p hp => N21 p (.tail _ hp), hag_odd _ _ _ _, .inr rfl⟩
    · rintro f s' ⟨rfl, h16, tk16, ya, c16, ags, rfl, F16, N16, hya, hags⟩
      (try dsimp only)
      k_steps
      refine ⟨?_⟩
      rename Fr _ _ _ _ => F17
      rename News _ _ _ _ => N17
      refine call_Fn (applies_spec w mg mb rfl _ (X.keeps F17.keep) (T.keeps F17.keep) y _ _ _ sf _ ⟨dy, y1, y2, _, _, _, _, _, _, N17.get (.head _), N17.get (.tail _ (.head _)), N17.get (.tail _ (.tail _ (.head _))), N17.get (.tail _ (.tail _ (.tail _ (.head _))))⟩ hya (by rcases hags with rfl | rfl <;> simp) ?_ (by omega) (fun c hc => by have := hsx c hc; omega)) rfl (by simp only; omega) (by simp only; omega) ?_
      · exact ags_ok hml hmx hags
      rintro v h20 tk20 hk20 rfl
      have F20 := F17.keeps hk20
      have N20 := N17.grown hk20
      rw [held_P hsx hmx hmn hmin hags]
      clear F17 N17
      have hA := toldA_snoc xs i
      have hR := toldR_snoc xs i
      have hsz : sizeP xs i = if stoodP xs i then 0 else (lpsN sf : Int) := by unfold sizeP; rw [hmlen]
      rw [hsz] at hR
      generalize stoodP xs i = b at F20 hA hR
      cases b with
      | false =>
        (try dsimp only)
        k_steps
        rename Fr _ _ _ _ => F21
        rename News _ _ _ _ => N21
        (try dsimp only)
        refine TurnEnd.split (nx := [_, _]) F21 (fun p hp => N21 p (.tail _ (.tail _ (.tail _ (.tail _ hp))))) (off1 f1 (off1 f2 off0)) ⟨_, _, _, _, _, rfl, ?_, ?_, e1, e2⟩
        · rw [hA, if_neg (by decide), List.map_append]
          exact ha.append' (.cons _ _ .nil)
        · rw [hR, if_neg (by decide)]
          exact hr.append (.cons _ _ .nil)
      | true =>
        (try dsimp only)
        k_steps
        rename Fr _ _ _ _ => F21
        rename News _ _ _ _ => N21
        (try dsimp only)
        refine TurnEnd.split (nx := [_, _]) F21 (fun p hp => N21 p (.tail _ (.tail _ (.tail _ (.tail _ hp))))) (off1 f1 (off1 f2 off0)) ⟨_, _, _, _, _, rfl, ?_, ?_, e1, e2⟩
        · rw [hA, if_pos rfl]
          exact ha
        · rw [hR, if_pos rfl]
          exact hr.append (.cons _ _ .nil)
  · rintro m₁ nx h tk ⟨a, r, na, nr, t, rfl, ha, hr, e1, e2⟩ F4 N4
    have hal : a.length ≤ 17 := by have := ha.length; rw [List.length_map] at this; have := toldA_len xs xs.length; omega
    clear F3 N3 R1
    simp only [List.cons_append, List.nil_append] at N4
    k_unmd
    k_fold
    (try dsimp only)
    k_steps
    rename Fr _ _ _ _ => F5
    rename News _ _ _ _ => N5
    (try dsimp only)
    refine Back.intro F5 ⟨z, _, _, rfl, ⟨dz, la, lr, _, _, _, _, _, _, Fresh.four N5 (.tail _ (.tail _ (.head _))) (.tail _ (.tail _ (.tail _ (.head _)))) (.head _) (.tail _ (.head _))⟩, ?_, hr⟩
    rw [List.map_append]
    refine ha.append' ?_
    show StrsAre [_] [S [42]]
    rw [show S [42] = Str.ofString "*" from by decide +kernel]
    exact .cons _ _ .nil
end Mine
end
section
open PySem PySem.W PySem.Calls PyProof.Rows
set_option maxRecDepth 100000
namespace Mine
/-! what the law's walk leans on: plain -/
theorem three {l : List Int} (h : l.length = 3) : ∃ a b c, l = [a, b, c] := by
  match l, h with
  | [a, b, c], _ => exact ⟨a, b, c, rfl⟩
theorem item_c {prog : Program} {w : World} {A : Around} {s : Shared} {E : Value → Shared → Prop} {value slice : PySem.Expr} {l : Addr} {vs : List Value} {c0 c1 c2 : Int} {n : Nat} {k : Int} {u : Tok} {Q : Value → Shared → Prop} (hl : s.heap.get? l = some (W.listOf vs.toArray n)) (hx : IntsAre vs [c0, c1, c2]) (h0 : 0 ≤ k) (h1 : k < 3)
    (h : ∀ x t, [c0, c1, c2][k.toNat]? = some x → Q (.int x t) s)
    (hs : subscripted slice false (.ref l) (.int k u) = operate [.ref l, .int k u] (getItem (.ref l) (.int k u)) := by with_unfolding_all rfl) :
    wpAny (model prog w) A (subscriptTail value slice (.ref l) (.int k u)) Q E s :=
  item_ints (listO_is hl) hx h0 h1 (by show 3 < _; decide) h hs
theorem skip4 {q a1 a2 a3 a4 : Addr × Obj} {l : List (Addr × Obj)} (h : q ∈ l) : q ∈ a1 :: a2 :: a3 :: a4 :: l := .tail _ (.tail _ (.tail _ (.tail _ h)))
theorem scan_ok {n : Nat} (h : n ≤ 18) : n + 1 < scanBound := Nat.lt_of_le_of_lt (Nat.succ_le_succ h) (by decide)
theorem abc_row {a b : List Nat} {k : Nat} (ha : abc a) (hb : abc b) : abc (a ++ a.reverse.drop k ++ b) := by
  intro c hc
  simp only [List.mem_append] at hc
  rcases hc with (hc | hc) | hc
  · exact ha c hc
  · exact ha c (List.mem_reverse.mp (List.mem_of_mem_drop hc))
  · exact hb c hc
/-! the rows -/
abbrev RowT := Addr × List Value × Nat
def rowsA (rs : List RowT) : List Addr := rs.map (·.1)
def rowsV (rs : List RowT) : List (List Value) := rs.map (·.2.1)
def rowsO (rs : List RowT) : List (Addr × Obj) := rs.map fun r => (r.1, W.listOf (List.toArray r.2.1) r.2.2)
def RowsN (xs : List Nat) (rs : List RowT) : Prop := ∀ (k : Nat) r, rs[k]? = some r → StrsAre r.2.1 ((newP xs k).map S)
def duJ (xs : List Nat) (i : Nat) (ys : List Value) (nx : List (Addr × Obj)) : Prop := ∃ rs, rs.length = i ∧ ys = (rowsA rs).map Value.ref ∧ nx = rowsO rs ∧ RowsN xs rs
theorem du_in {h₀ h : Heap} {L : Addr} {a b c x y : Addr × Obj} {r o : List (Addr × Obj)} (N : News h₀ L h (a :: b :: c :: (r ++ x :: y :: o))) : ∃ ro, ro = r ++ o ∧ News h₀ L h (a :: b :: c :: x :: y :: ro) := by
  refine ⟨_, rfl, fun p hp => N p ?_⟩
  simp only [List.mem_cons, List.mem_append] at hp ⊢
  rcases hp with h | h | h | h | h | h | h <;> simp [h]
theorem du_start {xs : List Nat} : duJ xs 0 [] [] := ⟨[], rfl, rfl, rfl, fun _ _ e => by cases e⟩
theorem du_turn {h₀ h' : Heap} {L I C D : Addr} {m : Str → Option Value} {oI oC oD : Obj} {x y : Addr × Obj} {ro o : List (Addr × Obj)} {xs : List Nat} {rs : List RowT} {z : Addr} {vs : List Value} {n : Nat} {s : Shared} {tk : Nat}
    (F : Fr h₀ L h' m) (N : News h₀ L h' ((z, W.listOf (List.toArray vs) n) :: (I, oI) :: (C, oC) :: (D, oD) :: x :: y :: ro)) (hro : ro = rowsO rs ++ o) (off : ∀ p ∈ rowsO rs ++ x :: y :: o, p.1 ∉ [I, D, C]) (hz : @Ne Nat z I ∧ @Ne Nat z C ∧ @Ne Nat z D)
    (hst : RowsN xs rs) (hv : StrsAre vs ((newP xs rs.length).map S)) :
    CTurn h₀ L m (duJ xs (rs.length + 1) ((rowsA rs).map Value.ref ++ [.ref z])) ((I, oI) :: (C, oC) :: (D, oD) :: x :: y :: o) [I, D, C] s { s with heap := h', toks := tk } := by
  subst hro
  have e : rowsO (rs ++ [(z, vs, n)]) = rowsO rs ++ [(z, W.listOf (List.toArray vs) n)] := by simp [rowsO]
  refine CTurn.intro (rowsO (rs ++ [(z, vs, n)])) _ F N ?_ ?_ ?_ ⟨rs ++ [(z, vs, n)], by simp, by simp [rowsA], rfl, ?_⟩
  · intro p hp
    rw [e] at hp
    simp only [List.mem_append, List.mem_cons, List.not_mem_nil, or_false] at hp ⊢
    rcases hp with h | h <;> simp [h]
  · intro p hp
    simp only [List.mem_append, List.mem_cons] at hp ⊢
    rcases hp with h | h | h | h | h | h <;> simp [h]
  · intro p hp
    rw [e] at hp
    rcases List.mem_append.mp hp with h | h
    · exact off p (List.mem_append_left _ h)
    · rw [List.mem_singleton.mp h]
      simp only [List.mem_cons, List.not_mem_nil, or_false, not_or]
      exact ⟨hz.1, hz.2.2, hz.2.1⟩
  · intro k r hk
    rw [List.getElem?_append] at hk
    split at hk
    · exact hst k r hk
    · next q =>
      have : k - rs.length = 0 := by
        by_cases q2 : k - rs.length = 0
        · exact q2
        · rw [List.getElem?_eq_none (by simp; omega)] at hk; cases hk
      rw [this] at hk
      cases hk
      rw [show k = rs.length by omega]
      exact hv
/-- what was made goes behind the letter -/
theorem du_done {h₀ h : Heap} {L : Addr} {D : Addr × Obj} {x y : Addr × Obj} {r o : List (Addr × Obj)} (N : News h₀ L h (D :: (r ++ x :: y :: o))) : ∃ o2, News h₀ L h (x :: y :: o2) ∧ D ∈ o2 ∧ (∀ p ∈ r, p ∈ o2) ∧ ∀ p ∈ o, p ∈ o2 := by
  refine ⟨D :: (r ++ o), fun p hp => N p ?_, .head _, fun p hp => .tail _ (List.mem_append_left _ hp), fun p hp => .tail _ (List.mem_append_right _ hp)⟩
  simp only [List.mem_cons, List.mem_append] at hp ⊢
  rcases hp with h | h | h | h | h <;> simp [h]
theorem one_done {h₀ h : Heap} {L : Addr} {D : Addr × Obj} {x y : Addr × Obj} {o : List (Addr × Obj)} (N : News h₀ L h (D :: x :: y :: o)) : ∃ o2, News h₀ L h (x :: y :: o2) ∧ D ∈ o2 ∧ ∀ p ∈ o, p ∈ o2 := by
  refine ⟨D :: o, fun p hp => N p ?_, .head _, fun p hp => .tail _ hp⟩
  simp only [List.mem_cons] at hp ⊢
  rcases hp with h | h | h | h <;> simp [h]
theorem rows_mem {rs : List RowT} {o2 : List (Addr × Obj)} (h : ∀ p ∈ rowsO rs, p ∈ o2) {k : Nat} {v : Value} (hv : ((rowsA rs).map Value.ref)[k]? = some v) : ∃ r, rs[k]? = some r ∧ v = .ref r.1 ∧ (r.1, W.listOf (List.toArray r.2.1) r.2.2) ∈ o2 := by
  rw [rowsA, List.map_map, List.getElem?_map] at hv
  cases e : rs[k]? with
  | none => rw [e] at hv; cases hv
  | some r =>
    rw [e] at hv
    cases hv
    exact ⟨r, rfl, rfl, h _ (List.mem_map.mpr ⟨r, List.mem_of_getElem? e, rfl⟩)⟩
theorem rows_items {hp h₀ : Heap} {L : Addr} {news : List (Addr × Obj)} {rs : List RowT} (N : News h₀ L hp news) (h : ∀ p ∈ rowsO rs, p ∈ news) (n : Nat) : ∀ (i : Nat) (a : Addr) (vs : List Value), (rowsA (rs.take n))[i]? = some a → (rowsV (rs.take n))[i]? = some vs → hp.IsList a vs.toArray := by
  intro i a vs ha hv
  rw [rowsA, List.getElem?_map] at ha
  rw [rowsV, List.getElem?_map] at hv
  cases e : (rs.take n)[i]? with
  | none => rw [e] at ha; cases ha
  | some r =>
    rw [e] at ha hv
    cases ha
    cases hv
    exact listO_is (N.get (h _ (List.mem_map.mpr ⟨r, List.mem_of_mem_take (List.mem_of_getElem? e), rfl⟩)))
theorem rows_strs {xs : List Nat} : ∀ {n : Nat} {rs : List RowT}, rs.length = n → RowsN xs rs → StrsAre (rowsV rs).flatten ((((List.range n).map (newP xs)).flatten).map S)
  | 0, rs, h, _ => by
    rw [List.length_eq_zero_iff.mp h]; exact .nil
  | n + 1, rs, h, hr => by
    rcases List.eq_nil_or_concat rs with rfl | ⟨rs', r, rfl⟩
    · cases h
    · rw [List.concat_eq_append] at h hr ⊢
      have hl : rs'.length = n := by simpa using h
      have h1 := rows_strs hl (fun k q hk => hr k q (by
        rw [List.getElem?_append_left]
        · exact hk
        · by_cases q2 : k < rs'.length
          · exact q2
          · rw [List.getElem?_eq_none (by omega)] at hk; cases hk))
      have h2 := hr n r (by rw [List.getElem?_append_right (by omega), hl, Nat.sub_self]; rfl)
      rw [rowsV, List.map_append, List.flatten_append, List.range_succ, List.map_append, List.flatten_append, List.map_append]
      refine StrsAre.append' h1 ?_
      simpa using h2
theorem rowsN_take {xs : List Nat} {rs : List RowT} (h : RowsN xs rs) (n : Nat) : RowsN xs (rs.take n) := fun k r hk => by
  rw [List.getElem?_take] at hk
  split at hk
  · exact h k r hk
  · cases hk
theorem mirs_len {xs : List Nat} {n : Nat} : (mirs xs n).length ≤ n := by
  unfold mirs
  rw [List.length_map]
  have := List.length_filter_le (fun p => !stoodP xs p) (List.range n)
  rwa [List.length_range] at this
/-- what flat gives of a part of the rows -/
theorem flat_strs {xs : List Nat} (hx : abc xs) {n : Nat} (hn : n ≤ xs.length) {rs : List RowT} (hl : rs.length = n) (hr : RowsN xs rs) (t1 t2 : Tok) :
    StrsAre (.str (Str.ofString "*") t1 :: (rowsV rs).flatten ++ [.str (Str.ofString "*") t2] : List Value) ((starred (mirs xs n)).map S) := by
  have h := rows_strs hl hr
  rw [flat_new hx n hn] at h
  have e : (starred (mirs xs n)).map S = Str.ofString "*" :: (mirs xs n).map S ++ [Str.ofString "*"] := by
    rw [show Str.ofString "*" = S [42] from by decide +kernel]
    simp [starred]
  rw [e]
  exact .cons _ _ (h.append' (.cons _ _ .nil))
theorem flat_len {xs : List Nat} (hx : abc xs) {n : Nat} (hn : n ≤ xs.length) {rs : List RowT} (hl : rs.length = n) (hr : RowsN xs rs) : (rowsV rs).flatten.length ≤ n := by
  have h := rows_strs hl hr
  rw [flat_new hx n hn] at h
  have := h.length
  rw [List.length_map] at this
  have := mirs_len (xs := xs) (n := n)
  omega
/-! texts -/
theorem okS_mirs {xs : List Nat} (hx : abc xs) {n : Nat} (hn : n ≤ xs.length) : okS ((starred (mirs xs n)).map S) := by
  have h1 : ∀ e ∈ starred (mirs xs n), ∀ c ∈ e, c < 128 := by
    intro e he c hc
    simp only [starred, List.cons_append, List.mem_cons, List.mem_append, List.not_mem_nil, or_false] at he
    rcases he with rfl | he | rfl
    · rw [List.mem_singleton.mp hc]; decide
    · rw [mem_mirs hx hn] at he
      have := hx c (List.mem_of_mem_take (he.2.2.subset hc))
      omega
    · rw [List.mem_singleton.mp hc]; decide
  intro s hs
  obtain ⟨e, he, rfl⟩ := List.mem_map.mp hs
  show (S e).cps.all _ = true
  rw [Array.all_eq_true']
  intro c hc
  have : c ∈ e := by simpa [S] using hc
  have := h1 e he c this
  exact decide_eq_true (by omega)
theorem keep_strs {S : Str → Bool} : ∀ {vs : List Value} {xs : List Str}, StrsAre vs xs → StrsAre (vs.filter (keepS S)) (xs.filter S)
  | _, _, .nil => .nil
  | _, _, .cons x t h => by
    rw [List.filter_cons, List.filter_cons]
    show StrsAre (if S x = true then _ else _) _
    split
    · exact .cons _ _ (keep_strs h)
    · exact keep_strs h
theorem filter_S (l1 l2 : List (List Nat)) : (l1.map S).filter (fun k => decide (k ∈ l2.map S)) = (l1.filter fun e => decide (e ∈ l2)).map S := by
  rw [List.filter_map]
  congr 1
  refine List.filter_congr fun e _ => ?_
  show decide (S e ∈ l2.map S) = decide (e ∈ l2)
  rw [decide_eq_decide]
  constructor
  · intro h
    obtain ⟨e', he, q⟩ := List.mem_map.mp h
    rw [← S_inj q]; exact he
  · exact fun h => List.mem_map_of_mem h
theorem left_strs {row : List Nat} {kept : Nat} (hx : abc row) (hk : kept ≤ row.length) {td : List Nat} (htd : (row.take kept).reverse = td) {a1 : List Value} (ha : StrsAre a1 ((toldA row row.length ++ [[42]]).map S)) :
    StrsAre (a1.filter (keepS fun k => decide (k ∈ (toldA td td.length ++ [[42]]).map S))) ((starred (mirs row kept)).map S) := by
  subst htd
  have h := keep_strs (S := fun k => decide (k ∈ (toldA (row.take kept).reverse (row.take kept).reverse.length ++ [[42]]).map S)) ha
  rw [filter_S] at h
  rw [turned_len hk] at h ⊢
  have e := filter_starred (l1 := mirs row row.length) (l2 := mirs (row.take kept).reverse kept) (fun e he => no_star hx (Nat.le_refl _) he)
  rw [left_mirs hx hk] at e
  rw [← e]
  exact h
theorem right_strs {row : List Nat} {kept : Nat} (hx : abc row) (hk : kept ≤ row.length) {td : List Nat} (htd : (row.take kept).reverse = td) {a2 : List Value} (ha : StrsAre a2 ((toldA td td.length ++ [[42]]).map S)) :
    StrsAre (a2.filter (keepS fun k => decide (k ∈ (toldA row row.length ++ [[42]]).map S))) ((starred (mirs td td.length)).map S) := by
  subst htd
  have h := keep_strs (S := fun k => decide (k ∈ (toldA row row.length ++ [[42]]).map S)) ha
  rw [filter_S] at h
  rw [turned_len hk] at h ⊢
  have e := filter_starred (l1 := mirs (row.take kept).reverse kept) (l2 := mirs row row.length) (fun e he => no_star (turned_abc hx) (by rw [turned_len hk]; exact Nat.le_refl _) he)
  rw [right_mirs hx hk] at e
  rw [← e]
  exact h
theorem ne_same {prog : Program} {w : World} {A : Around} {s : Shared} {E : Value → Shared → Prop} {a b : Addr} {vs us : List Value} {xs : List Str} {Q : Value → Shared → Prop} {n1 n2 : Nat} (hl : s.heap.get? a = some (W.listOf vs.toArray n1)) (hi : StrsAre vs xs) (hl' : s.heap.get? b = some (W.listOf us.toArray n2)) (hi' : StrsAre us xs) (o1 : okS xs) (hu : A.units + 64 < cLine)
    (h : Q (.bool false) s) : wpAny (model prog w) A (compareOp .NotEq (.ref a) (.ref b)) Q E s :=
  ne_strsK (listO_is hl) hi (listO_is hl') hi' o1 o1 hu (by rw [decide_eq_true rfl]; exact h)
theorem ne_sameI {prog : Program} {w : World} {A : Around} {s : Shared} {E : Value → Shared → Prop} {a b : Addr} {vs us : List Value} {xs : List Int} {Q : Value → Shared → Prop} {n1 n2 : Nat} (hl : s.heap.get? a = some (W.listOf vs.toArray n1)) (hi : IntsAre vs xs) (hl' : s.heap.get? b = some (W.listOf us.toArray n2)) (hi' : IntsAre us xs) (hu : A.units + 64 < cLine)
    (h : Q (.bool false) s) : wpAny (model prog w) A (compareOp .NotEq (.ref a) (.ref b)) Q E s :=
  ne_intsK (listO_is hl) hi (listO_is hl') hi' hu (by rw [decide_eq_true rfl]; exact h)
theorem pack16 {h₀ h : Heap} {L : Addr} {x1 x2 x3 x4 x5 x6 x7 x8 x9 x10 x11 x12 x13 x14 x15 x16 zc ct cr : Addr × Obj} (N : News h₀ L h [x1, x2, x3, x4, x5, x6, x7, x8, x9, x10, x11, x12, x13, x14, x15, x16, zc, ct, cr]) :
    ∃ old, News h₀ L h (ct :: cr :: old) ∧ (x1 ∈ old ∧ x2 ∈ old ∧ x3 ∈ old ∧ x4 ∈ old) ∧ (x5 ∈ old ∧ x6 ∈ old ∧ x7 ∈ old ∧ x8 ∈ old) ∧ (x9 ∈ old ∧ x10 ∈ old ∧ x11 ∈ old ∧ x12 ∈ old) ∧ x13 ∈ old ∧ x14 ∈ old ∧ x15 ∈ old ∧ x16 ∈ old := by
  have t4 : ∀ {q a b c d : Addr × Obj} {l : List (Addr × Obj)}, q ∈ l → q ∈ a :: b :: c :: d :: l := skip4
  have f4 : ∀ (a b c d : Addr × Obj) (l : List (Addr × Obj)), a ∈ a :: b :: c :: d :: l ∧ b ∈ a :: b :: c :: d :: l ∧ c ∈ a :: b :: c :: d :: l ∧ d ∈ a :: b :: c :: d :: l := fun a b c d l => ⟨.head _, .tail _ (.head _), .tail _ (.tail _ (.head _)), .tail _ (.tail _ (.tail _ (.head _)))⟩
  have u4 : ∀ {q1 q2 q3 q4 a b c d : Addr × Obj} {l : List (Addr × Obj)}, (q1 ∈ l ∧ q2 ∈ l ∧ q3 ∈ l ∧ q4 ∈ l) → q1 ∈ a :: b :: c :: d :: l ∧ q2 ∈ a :: b :: c :: d :: l ∧ q3 ∈ a :: b :: c :: d :: l ∧ q4 ∈ a :: b :: c :: d :: l := fun h => ⟨t4 h.1, t4 h.2.1, t4 h.2.2.1, t4 h.2.2.2⟩
  refine ⟨[x1, x2, x3, x4, x5, x6, x7, x8, x9, x10, x11, x12, x13, x14, x15, x16], fun p hp => N p ?_, f4 _ _ _ _ _, u4 (f4 _ _ _ _ _), u4 (u4 (f4 _ _ _ _ _)), u4 (u4 (u4 (f4 _ _ _ _ _)))⟩
  rcases List.mem_cons.mp hp with rfl | hp
  · exact List.mem_append_right [x1, x2, x3, x4, x5, x6, x7, x8, x9, x10, x11, x12, x13, x14, x15, x16] (.tail _ (.head _))
  · rcases List.mem_cons.mp hp with rfl | hp
    · exact List.mem_append_right [x1, x2, x3, x4, x5, x6, x7, x8, x9, x10, x11, x12, x13, x14, x15, x16] (.tail _ (.tail _ (.head _)))
    · exact List.mem_append_left [zc, _, _] hp
end Mine
end
section
open PySem PySem.W PySem.Calls PyProof.Rows Mine
set_option Elab.async false
set_option maxRecDepth 100000
set_option maxHeartbeats 4000000
namespace Mine
theorem deep20 : 302 + 20 < recursionLimit := by decide
theorem deep30 : 302 + 30 < recursionLimit := by decide
theorem deep60 : 302 + 60 < recursionLimit := by decide
theorem unit20 : 7 + 100 * 20 < cLine := by decide
theorem unit30 : 7 + 100 * 30 < cLine := by decide
theorem unit60 : 7 + 100 * 60 < cLine := by decide
theorem unit64 : 7 + 64 < cLine := by decide
theorem newP_small {xs : List Nat} {p : Nat} : ∀ e ∈ newP xs p, e.length ≤ xs.length := by
  intro e he
  obtain ⟨k, _, rfl⟩ := List.mem_map.mp (List.mem_filter.mp he).1
  unfold endP
  rw [List.length_drop, List.length_take]; omega
theorem newP_len {xs : List Nat} (hx : abc xs) {p : Nat} (hp : p < xs.length) : (newP xs p).length ≤ 1 := by
  rw [newP_eq hx hp]; split <;> simp
local macro_rules | `(tactic| k_mem) => `(tactic| assumption)
theorem law2 : PySem.Challenge.rw_wn0034_02.Holds := hd2 (by
  k_with_none
  k_with "call ref" => refine Halt.out ?_
  k_with "pyIter ref" => refine Halt.out ?_
  k_with "call builtin:len" => refine Halt.out ?_
  k_with "subscriptTail Name Slice str ref" => refine Halt.out ?_
  k_with "subscriptTail Subscript Slice str ref" => refine Halt.out ?_
  k_with "subscriptTail Name Constant ref int" => refine Halt.out ?_
  k_with "binaryOp FloorDiv int int" => refine Halt.out ?_
  k_with "binaryOp Add str str" => refine Halt.out ?_
  k_with "compareOp NotEq ref ref" => refine Halt.out ?_
  k_with "compareOp Eq ref ref" => refine Halt.out ?_
  k_with "binaryOp Add ref ref" => refine Halt.out ?_
  k_with "subscriptTail Name Slice ref ref" => refine Halt.out ?_
  k_with "call builtin:sum" => refine Halt.out ?_
  k_with "loadName" => (k_here; k_dflt (refine loadX_L (by k_asm) (by assumption) ?_; k_whole))
  k_with "eval Name" => (k_here; (with_reducible show wpAny _ _ (eval (Expr.Name _ _) (compEnvC _ _ _ _)) _ _ _); k_dflt (first | refine ldT_global (by k_asm) (by assumption) (by assumption) (by k_is) ?_ | refine ldT_built (by k_asm) (by assumption) (by assumption) (by k_is) (by boot_by_name) (by decide) ?_))
  k_with "eval ListComp" => k_dflt (refine Comp_ev (by with_unfolding_all rfl) (by rfl) (by decide) ?_)
  k_with "exec Assign cons ListComp" => k_dflt (refine Comp_as (by with_unfolding_all rfl) (by with_unfolding_all rfl) (by rfl) (by decide) ?_)
  k_with "eval Name" => (k_here; k_dflt (refine nameX_L (by k_asm) (by assumption) ?_; k_whole))
  k_with "exec If" => refine wpAny_If ?_
  k_go0
  (all_goals try k_fold)
  refine abs_law fun R fr gd hR => ?_
  k_steps
  rename World => w
  rename Top _ _ _ _ _ _ => T
  have T := topRead_of T
  rename PySem.W.Frag.In _ _ => X
  rename Fr _ _ _ _ => F
  rename News _ _ _ _ => N
  rename Heap.IsList _ _ _ => hL
  rename IntsAre _ _ => hI
  refine ⟨?_⟩
  refine call_Fn (cells_spec w _ _ rfl _ (X.keeps F.keep) (T.keeps F.keep) _ _ _ (hL.at fun o e => F.keep _ o e) hI (by omega)) rfl deep30 unit30 ?_
  rintro v h2 tk2 hk2 ⟨zc, tc, nc, cc, rfl, fc, ic, lc⟩
  have F2 := F.keeps hk2
  have N2 := fc.news F (N.grown hk2)
  simp only [List.cons_append, List.nil_append] at N2
  clear F N fc hL hI
  (try dsimp only)
  k_steps
  refine ⟨?_⟩
  obtain ⟨c0, c1, c2, rfl⟩ := three lc
  have b0 := fmod_lt (a := c0) (b := 5) (by decide)
  have b1 := fmod_lt (a := c1) (b := 2) (by decide)
  have b2 := fmod_lt (a := c2) (b := 4) (by decide)
  have b3 := fmod_lt (a := c1.fdiv 2) (b := 3) (by decide)
  rename Fr _ _ _ _ => F3
  rename News _ _ _ _ => N3
  refine item_c (N3.get (.head _)) ic (by decide) (by decide) fun x tx hx => ?_
  cases hx
  (try dsimp only)
  k_steps
  refine ⟨?_⟩
  refine floordiv_int (by decide) ?_ (.inl (PyProof.noPylong_small (by decide)))
  (try dsimp only)
  k_steps
  refine ⟨?_⟩
  rename Fr _ _ _ _ => F4
  rename News _ _ _ _ => N4
  refine item_c (N4.get (.head _)) ic (by decide) (by decide) fun x tx hx => ?_
  cases hx
  (try dsimp only)
  k_steps
  refine ⟨?_⟩
  rename Fr _ _ _ _ => F5
  rename News _ _ _ _ => N5
  refine call_Fn (word_spec w _ _ rfl _ (X.keeps F5.keep) (T.keeps F5.keep) _ _ _ _ (by omega) (by omega)) rfl deep30 unit30 ?_
  rintro v h6 tk6 hk6 ⟨hw, t6, rfl, hwl, hwa⟩
  have F6 := F5.keeps hk6
  have N6 := N5.grown hk6
  (try clear F5)
  (try clear N5)
  (try clear F4)
  (try clear N4)
  (try clear F3)
  (try clear N3)
  (try clear F2)
  (try clear N2)
  (try clear hk6)
  (try dsimp only)
  k_steps
  refine ⟨?_⟩
  rename Fr _ _ _ _ => F7
  rename News _ _ _ _ => N7
  refine sl_rev F7 N7 (by omega) fun h8 _ _ F8 N8 => ?_
  (try dsimp only)
  k_steps
  refine ⟨?_⟩
  rename Fr _ _ _ _ => F9
  rename News _ _ _ _ => N9
  refine item_c (N9.get (.head _)) ic (by decide) (by decide) fun x tx hx => ?_
  cases hx
  (try dsimp only)
  k_steps
  refine ⟨?_⟩
  rename Fr _ _ _ _ => F10
  rename News _ _ _ _ => N10
  refine sl_from F10 N10 (by omega) (by rw [List.length_reverse]; omega) (by rw [List.length_reverse]; omega) fun h11 _ _ F11 N11 => ?_
  (try dsimp only)
  k_steps
  refine ⟨?_⟩
  refine add_S (by rw [List.length_drop, List.length_reverse]; omega) fun _ _ => ?_
  (try dsimp only)
  k_steps
  refine ⟨?_⟩
  rename Fr _ _ _ _ => F12
  rename News _ _ _ _ => N12
  refine item_c (N12.get (.head _)) ic (by decide) (by decide) fun x tx hx => ?_
  cases hx
  (try dsimp only)
  k_steps
  refine ⟨?_⟩
  refine floordiv_int (by decide) ?_ (.inl (PyProof.noPylong_small (by decide)))
  (try dsimp only)
  k_steps
  refine ⟨?_⟩
  rename Fr _ _ _ _ => F13
  rename News _ _ _ _ => N13
  refine item_c (N13.get (.head _)) ic (by decide) (by decide) fun x tx hx => ?_
  cases hx
  (try dsimp only)
  k_steps
  refine ⟨?_⟩
  rename Fr _ _ _ _ => F14
  rename News _ _ _ _ => N14
  refine call_Fn (word_spec w _ _ rfl _ (X.keeps F14.keep) (T.keeps F14.keep) _ _ _ _ (by omega) (by omega)) rfl deep30 unit30 ?_
  rintro v h15 tk15 hk15 ⟨tw, t15, rfl, twl, twa⟩
  have F15 := F14.keeps hk15
  have N15 := N14.grown hk15
  (try clear F14)
  (try clear N14)
  (try clear F13)
  (try clear N13)
  (try clear F12)
  (try clear N12)
  (try clear F11)
  (try clear N11)
  (try clear F10)
  (try clear N10)
  (try clear F9)
  (try clear N9)
  (try clear F8)
  (try clear N8)
  (try clear F7)
  (try clear N7)
  (try clear F6)
  (try clear N6)
  (try clear hk15)
  (try dsimp only)
  k_steps
  refine ⟨?_⟩
  refine add_S (by rw [List.length_append, List.length_drop, List.length_reverse]; omega) fun _ _ => ?_
  have hrow : abc (hw ++ hw.reverse.drop (c1.fmod 2).toNat ++ tw) := abc_row hwa twa
  have hrl : (hw ++ hw.reverse.drop (c1.fmod 2).toNat ++ tw).length ≤ 13 := by rw [List.length_append, List.length_append, List.length_drop, List.length_reverse]; omega
  generalize hw ++ hw.reverse.drop (c1.fmod 2).toNat ++ tw = row at hrow hrl
  (try dsimp only)
  k_steps
  refine ⟨?_⟩
  refine len_S (by omega) fun _ _ => ?_
  (try dsimp only)
  k_steps
  refine ⟨?_⟩
  rename Fr _ _ _ _ => F16
  rename News _ _ _ _ => N16
  refine item_c (N16.get (.head _)) ic (by decide) (by decide) fun x tx hx => ?_
  cases hx
  (try dsimp only)
  k_steps
  refine ⟨?_⟩
  refine floordiv_int (by decide) ?_ (.inl (PyProof.noPylong_small (by decide)))
  (try dsimp only)
  k_steps
  refine ⟨?_⟩
  obtain ⟨kp, hkp, hk0, hk1⟩ : ∃ kp : Int, (if (row.length : Int) - (c1.fdiv 2).fmod 3 > 0 then (row.length : Int) - (c1.fdiv 2).fmod 3 else 0) = kp ∧ 0 ≤ kp ∧ kp ≤ row.length := ⟨_, rfl, by split <;> omega, by split <;> omega⟩
  rename Fr _ _ _ _ => F17
  rename News _ _ _ _ => N17
  rw [hkp] at F17 ⊢
  refine sl_to F17 N17 hk0 hk1 (by omega) fun h18 _ _ F18 N18 => ?_
  obtain ⟨kept, rfl⟩ := Int.eq_ofNat_of_zero_le hk0
  rw [Int.toNat_natCast]
  have hkl : kept ≤ row.length := by omega
  (try clear F17)
  (try clear N17)
  (try dsimp only)
  k_steps
  refine ⟨?_⟩
  rename Fr _ _ _ _ => F19
  rename News _ _ _ _ => N19
  refine sl_rev F19 N19 (by rw [List.length_take]; omega) fun h20 _ _ F20 N20 => ?_
  have htl := turned_len hkl
  have htx : abc (row.take kept).reverse := turned_abc hrow
  generalize htd : (row.take kept).reverse = td at htl htx
  (try clear F19)
  (try clear N19)
  (try dsimp only)
  k_steps
  refine ⟨?_⟩
  rename Fr _ _ _ _ => F21
  rename News _ _ _ _ => N21
  refine call_Fn (told_spec w _ _ rfl _ (X.keeps F21.keep) (T.keeps F21.keep) _ _ (by omega) hrow) rfl deep60 unit60 ?_
  rintro v h22 tk22 hk22 ⟨z1, a1, r1, rfl, ⟨d1, l1, k1, n1, m1, u1, u2, u3, u4, f1⟩, ha1, hr1⟩
  have F22 := F21.keeps hk22
  have N22 := f1.news F21 (N21.grown hk22)
  simp only [List.cons_append, List.nil_append] at N22
  clear F21 N21 f1 hk22
  (try dsimp only)
  k_steps
  refine ⟨?_⟩
  rename Fr _ _ _ _ => F23
  rename News _ _ _ _ => N23
  refine call_Fn (told_spec w _ _ rfl _ (X.keeps F23.keep) (T.keeps F23.keep) _ _ (by omega) htx) rfl deep60 unit60 ?_
  rintro v h24 tk24 hk24 ⟨z2, a2, r2, rfl, ⟨d2, l2, k2, n2, m2, u5, u6, u7, u8, f2⟩, ha2, hr2⟩
  have F24 := F23.keeps hk24
  have N24 := f2.news F23 (N23.grown hk24)
  simp only [List.cons_append, List.nil_append] at N24
  clear F23 N23 f2 hk24
  have al1 : a1.length ≤ 18 := by have := ha1.length; rw [List.length_map, List.length_append, List.length_singleton] at this; have := toldA_len row row.length; omega
  have al2 : a2.length ≤ 18 := by have := ha2.length; rw [List.length_map, List.length_append, List.length_singleton] at this; have := toldA_len td td.length; omega
  have rl1 : r1.length ≤ 18 := by have := hr1.length; unfold toldR at this; rw [List.length_map, List.length_range] at this; omega
  have rl2 : r2.length ≤ 18 := by have := hr2.length; unfold toldR at this; rw [List.length_map, List.length_range] at this; omega
  (try dsimp only)
  k_steps
  refine ⟨?_⟩
  rename Fr _ _ _ _ => F25
  rename News _ _ _ _ => N25
  refine call_Fn (merge_spec w _ _ rfl _ (X.keeps F25.keep) (T.keeps F25.keep) z1 z2 a1 r1 a2 r2 _ _ ⟨d1, l1, k1, _, _, _, _, _, _, N25.get (.tail _ (.tail _ (.tail _ (.tail _ (.head _))))), N25.get (.tail _ (.tail _ (.tail _ (.tail _ (.tail _ (.head _)))))), N25.get (.tail _ (.tail _ (.tail _ (.tail _ (.tail _ (.tail _ (.head _))))))), N25.get (.tail _ (.tail _ (.tail _ (.tail _ (.tail _ (.tail _ (.tail _ (.head _))))))))⟩ ⟨d2, l2, k2, _, _, _, _, _, _, N25.get (.head _), N25.get (.tail _ (.head _)), N25.get (.tail _ (.tail _ (.head _))), N25.get (.tail _ (.tail _ (.tail _ (.head _))))⟩ ha1 ha2 (by omega) (scan_ok al2) (by omega)) rfl deep20 unit20 ?_
  rintro v h26 tk26 hk26 ⟨z3, rfl, ⟨d3, l3, k3, n3, m3, u9, u10, u11, u12, f3⟩⟩
  have F26 := F25.keeps hk26
  have N26 := f3.news F25 (N25.grown hk26)
  simp only [List.cons_append, List.nil_append] at N26
  clear F25 N25 f3 hk26
  (try dsimp only)
  k_steps
  refine ⟨?_⟩
  rename Fr _ _ _ _ => F27
  rename News _ _ _ _ => N27
  refine call_Fn (merge_spec w _ _ rfl _ (X.keeps F27.keep) (T.keeps F27.keep) z2 z1 a2 r2 a1 r1 _ _ ⟨d2, l2, k2, _, _, _, _, _, _, N27.get (skip4 (.head _)), N27.get (skip4 (.tail _ (.head _))), N27.get (skip4 (.tail _ (.tail _ (.head _)))), N27.get (skip4 (.tail _ (.tail _ (.tail _ (.head _)))))⟩ ⟨d1, l1, k1, _, _, _, _, _, _, N27.get (skip4 (skip4 (.head _))), N27.get (skip4 (skip4 (.tail _ (.head _)))), N27.get (skip4 (skip4 (.tail _ (.tail _ (.head _))))), N27.get (skip4 (skip4 (.tail _ (.tail _ (.tail _ (.head _))))))⟩ ha2 ha1 (by omega) (scan_ok al1) (by omega)) rfl deep20 unit20 ?_
  rintro v h28 tk28 hk28 ⟨z4, rfl, ⟨d4, l4, k4, n4, m4, u13, u14, u15, u16, f4⟩⟩
  have F28 := F27.keeps hk28
  have N28 := f4.news F27 (N27.grown hk28)
  simp only [List.cons_append, List.nil_append] at N28
  clear F27 N27 f4 hk28
  (try dsimp only)
  k_steps
  refine ⟨?_⟩
  refine len_S (by omega) fun _ _ => ?_
  (try dsimp only)
  k_steps
  refine ⟨?_⟩
  rename Fr _ _ _ _ => F29
  rename News _ _ _ _ => N29
  have ha3 := left_strs hrow hkl htd ha1
  have ha4 := right_strs hrow hkl htd ha2
  generalize a1.filter (keepS fun k => decide (k ∈ (toldA td td.length ++ [[42]]).map S)) = a3 at N29 ha3
  generalize a2.filter (keepS fun k => decide (k ∈ (toldA row row.length ++ [[42]]).map S)) = a4 at N29 ha4
  obtain ⟨old, N29, ⟨p4z, p4d, p4l, p4k⟩, ⟨p3z, p3d, p3l, p3k⟩, ⟨p2z, p2d, p2l, p2k⟩, p1z, p1d, p1l, p1k⟩ := pack16 N29
  rename IsRange _ _ _ _ _ _ _ _ => R1
  refine range_J (n := row.length) (nx := []) (old := _) (duJ row) (fun g => compK_asn rfl rfl) rfl R1 (small_one (by omega) (by omega) (by omega) (by omega)) ?_ (by rw [sizeLine_eq]; omega) F29 N29 du_start ?_ ?_
  · rw [rangeSize_one]; split <;> omega
  · rintro i ti I oI C oC D m₂ ys nx h31 tk31 hi ⟨rs, hrs, rfl, rfl, hst⟩ hC hm₂ F31 N31 off ne lt
    refine abs_C fun R' R'' hR' hR'' => ?_
    refine TestsP.nil_if ?_
    obtain ⟨ro, hro, N32⟩ := du_in N31
    clear N31 R1
    (try clear F29)
    (try clear N29)
    (try clear F30)
    (try clear N30)
    (try dsimp only)
    k_steps
    refine ⟨?_⟩
    rename Fr _ _ _ _ => F33
    rename News _ _ _ _ => N33
    refine call_Fn (new_spec w _ _ rfl _ (X.keeps F33.keep) (T.keeps F33.keep) _ _ row (0 + (i : Int)) (by omega) (by omega) (by omega)) rfl deep30 unit30 ?_
    rintro v h34 tk34 hk34 ⟨z, vs, n, rfl, fz, hv⟩
    have hz : @Ne Nat z I ∧ @Ne Nat z C ∧ @Ne Nat z D := ⟨fz.ne (.head _) (N33.get (.head _)), fz.ne (.head _) (N33.get (.tail _ (.head _))), fz.ne (.head _) (N33.get (.tail _ (.tail _ (.head _))))⟩
    have F34 := F33.keeps hk34
    have N34 := fz.news F33 (N33.grown hk34)
    simp only [List.cons_append, List.nil_append] at N34
    rw [show (0 + (i : Int)).toNat = i by omega] at hv
    subst hrs
    (try dsimp only)
    exact hR' _ _ (du_turn F34 N34 hro off hz hst hv)
  rintro D1 h35 tk35 ys nx ⟨rs1, hrs1, rfl, rfl, hst1⟩ F35 N35 off35
  obtain ⟨oldb, N36, q1, q2, q3⟩ := du_done N35
  clear N35 off35 R1
  (try clear F29)
  (try clear N29)
  (try clear F30)
  (try clear N30)
  (try dsimp only)
  k_steps
  refine ⟨?_⟩
  rename Fr _ _ _ _ => F40
  rename News _ _ _ _ => N40
  rename IsRange _ _ _ _ _ _ _ _ => R2
  refine range_J (n := kept) (nx := []) (old := _) (duJ td) (fun g => compK_asn rfl rfl) rfl R2 (small_one (by omega) (by omega) (by omega) (by omega)) ?_ (by rw [sizeLine_eq]; omega) F40 N40 du_start ?_ ?_
  · rw [rangeSize_one]; split <;> omega
  · rintro i ti I oI C oC D m₂ ys nx h41 tk41 hi ⟨rs, hrs, rfl, rfl, hst⟩ hC hm₂ F41 N41 off ne lt
    refine abs_C fun R' R'' hR' hR'' => ?_
    refine TestsP.nil_if ?_
    obtain ⟨ro, hro, N42⟩ := du_in N41
    clear N41 R2
    (try clear F39)
    (try clear N39)
    (try clear F40)
    (try clear N40)
    (try dsimp only)
    k_steps
    refine ⟨?_⟩
    rename Fr _ _ _ _ => F43
    rename News _ _ _ _ => N43
    refine call_Fn (new_spec w _ _ rfl _ (X.keeps F43.keep) (T.keeps F43.keep) _ _ td (0 + (i : Int)) (by omega) (by omega) (by omega)) rfl deep30 unit30 ?_
    rintro v h44 tk44 hk44 ⟨z, vs, n, rfl, fz, hv⟩
    have hz : @Ne Nat z I ∧ @Ne Nat z C ∧ @Ne Nat z D := ⟨fz.ne (.head _) (N43.get (.head _)), fz.ne (.head _) (N43.get (.tail _ (.head _))), fz.ne (.head _) (N43.get (.tail _ (.tail _ (.head _))))⟩
    have F44 := F43.keeps hk44
    have N44 := fz.news F43 (N43.grown hk44)
    simp only [List.cons_append, List.nil_append] at N44
    rw [show (0 + (i : Int)).toNat = i by omega] at hv
    subst hrs
    (try dsimp only)
    exact hR' _ _ (du_turn F44 N44 hro off hz hst hv)
  rintro D2 h45 tk45 ys nx ⟨rs2, hrs2, rfl, rfl, hst2⟩ F45 N45 off45
  obtain ⟨oldc, N46, q5, q6, q4⟩ := du_done N45
  clear N45 off45 R2
  (try clear F39)
  (try clear N39)
  (try clear F40)
  (try clear N40)
  (try dsimp only)
  k_steps
  refine ⟨?_⟩
  rename Fr _ _ _ _ => F50
  rename News _ _ _ _ => N50
  have wl1 : ((rowsA rs1).map Value.ref).length ≤ 16 := by rw [List.length_map, rowsA, List.length_map, hrs1]; omega
  have wm1 := q4 _ q1
  have ws1 : ∀ p ∈ rowsO rs1, p ∈ _ := fun p hp => q4 _ (q2 p hp)
  refine list_J (nx := []) (old := _) (fun i ys nx => nx = [] ∧ IntsAre ys (toldR row i)) (fun g => compK_asn rfl rfl) rfl (listO_is (N50.get (.tail _ (.tail _ wm1)))) (by rw [sizeLine_eq]; omega) ?_ F50 N50 ⟨rfl, .nil⟩ ?_ ?_
  · rintro i ys nx h51 _ ⟨rfl, _⟩ F51 N51 o e
    rw [N50.get (.tail _ (.tail _ wm1))] at e
    cases e
    exact N51.get (.tail _ (.tail _ wm1))
  · rintro i v I oI C oC D m₃ zs nx h51 tk51 hi hv ⟨rfl, hz⟩ hC hm₃ hl51 F51 N51 off ne lt
    obtain ⟨r, hri, rfl, hrm⟩ := rows_mem ws1 hv
    have hil : i < row.length := by rw [List.length_map, rowsA, List.length_map, hrs1] at hi; omega
    have hsr := hst1 i r hri
    have hsl := hsr.length
    have hnl := newP_len hrow hil
    rw [List.length_map] at hsl
    clear F50 N50 hl51
    refine abs_C fun R' R'' hR' hR'' => ?_
    refine TestsP.nil_if ?_
    simp only [List.nil_append] at N51
    (try dsimp only)
    k_steps
    refine ⟨?_⟩
    rename Fr _ _ _ _ => F52
    rename News _ _ _ _ => N52
    refine list_J (nx := []) (old := _) (fun j zs nx => nx = [] ∧ IntsAre zs (((newP row i).take j).map fun e => (e.length : Int))) (fun g => compK_ev) rfl (listO_is (N52.get (.tail _ (.tail _ (.tail _ (.tail _ (.tail _ hrm))))))) (by rw [sizeLine_eq]; omega) ?_ F52 N52 ⟨rfl, .nil⟩ ?_ ?_
    · rintro j ys nx h53 _ ⟨rfl, _⟩ F53 N53 o e
      rw [N52.get (.tail _ (.tail _ (.tail _ (.tail _ (.tail _ hrm)))))] at e
      cases e
      exact N53.get (.tail _ (.tail _ (.tail _ (.tail _ (.tail _ hrm)))))
    · rintro j v I2 oI2 C2 oC2 D2' m₄ ws nx h53 tk53 hj hv2 ⟨rfl, hw⟩ hC2 hm₄ hl53 F53 N53 off2 ne2 lt2
      obtain ⟨e, te, rfl, hej⟩ := strs_ofS hsr hv2
      have hel := newP_small e (List.mem_of_getElem? hej)
      clear F52 N52 hl53
      refine abs_C fun R3 R4 hR3 hR4 => ?_
      refine TestsP.nil_if ?_
      simp only [List.nil_append] at N53
      (try dsimp only)
      k_steps
      refine ⟨?_⟩
      refine len_S (by omega) fun _ _ => ?_
      (try dsimp only)
      rename Fr _ _ _ _ => F54
      rename News _ _ _ _ => N54
      refine hR3 _ _ <| CTurn.n0 F54 N54 (fun p hp => hp) ⟨rfl, ?_⟩
      rw [List.take_add_one, hej, Option.toList_some, List.map_append]
      exact hw.append (.cons _ _ .nil)
    · rintro D2' h53 tk53 ws nx ⟨rfl, hw⟩ F53 N53 off2
      rw [hsl, List.take_length] at hw
      clear F52 N52 off2
      simp only [List.nil_append] at N53
      (try dsimp only)
      k_steps
      refine ⟨?_⟩
      rename Fr _ _ _ _ => F54
      rename News _ _ _ _ => N54
      refine LSm.sum_ints F54 N54 rfl (listO_is (N54.get (.head _))) hw fun h55 tk55 t55 F55 N55 => ?_
      (try dsimp only)
      rw [size_new hrow hil]
      refine hR' _ _ <| CTurn.n0 F55 N55 (fun p hp => .tail _ hp) ⟨rfl, ?_⟩
      rw [toldR_snoc]
      exact hz.append (.cons _ _ .nil)
  rintro Ds1 h56 tk56 sz1 nx ⟨rfl, hsz1⟩ F56 N56 off56
  rw [show ((rowsA rs1).map Value.ref).length = row.length by rw [List.length_map, rowsA, List.length_map, hrs1]] at hsz1
  clear F50 N50 off56
  simp only [List.nil_append] at N56
  obtain ⟨oldd, N57, q8, q7⟩ := one_done N56
  clear N56
  (try dsimp only)
  k_steps
  refine ⟨?_⟩
  rename Fr _ _ _ _ => F60
  rename News _ _ _ _ => N60
  have wl2 : ((rowsA rs2).map Value.ref).length ≤ 16 := by rw [List.length_map, rowsA, List.length_map, hrs2]; omega
  have wm2 := q7 _ q5
  have ws2 : ∀ p ∈ rowsO rs2, p ∈ _ := fun p hp => q7 _ (q6 p hp)
  refine list_J (nx := []) (old := _) (fun i ys nx => nx = [] ∧ IntsAre ys (toldR td i)) (fun g => compK_asn rfl rfl) rfl (listO_is (N60.get (.tail _ (.tail _ wm2)))) (by rw [sizeLine_eq]; omega) ?_ F60 N60 ⟨rfl, .nil⟩ ?_ ?_
  · rintro i ys nx h61 _ ⟨rfl, _⟩ F61 N61 o e
    rw [N60.get (.tail _ (.tail _ wm2))] at e
    cases e
    exact N61.get (.tail _ (.tail _ wm2))
  · rintro i v I oI C oC D m₃ zs nx h61 tk61 hi hv ⟨rfl, hz⟩ hC hm₃ hl61 F61 N61 off ne lt
    obtain ⟨r, hri, rfl, hrm⟩ := rows_mem ws2 hv
    have hil : i < td.length := by rw [List.length_map, rowsA, List.length_map, hrs2] at hi; omega
    have hsr := hst2 i r hri
    have hsl := hsr.length
    have hnl := newP_len htx hil
    rw [List.length_map] at hsl
    clear F60 N60 hl61
    refine abs_C fun R' R'' hR' hR'' => ?_
    refine TestsP.nil_if ?_
    simp only [List.nil_append] at N61
    (try dsimp only)
    k_steps
    refine ⟨?_⟩
    rename Fr _ _ _ _ => F62
    rename News _ _ _ _ => N62
    refine list_J (nx := []) (old := _) (fun j zs nx => nx = [] ∧ IntsAre zs (((newP td i).take j).map fun e => (e.length : Int))) (fun g => compK_ev) rfl (listO_is (N62.get (.tail _ (.tail _ (.tail _ (.tail _ (.tail _ hrm))))))) (by rw [sizeLine_eq]; omega) ?_ F62 N62 ⟨rfl, .nil⟩ ?_ ?_
    · rintro j ys nx h63 _ ⟨rfl, _⟩ F63 N63 o e
      rw [N62.get (.tail _ (.tail _ (.tail _ (.tail _ (.tail _ hrm)))))] at e
      cases e
      exact N63.get (.tail _ (.tail _ (.tail _ (.tail _ (.tail _ hrm)))))
    · rintro j v I2 oI2 C2 oC2 D2' m₄ ws nx h63 tk63 hj hv2 ⟨rfl, hw⟩ hC2 hm₄ hl63 F63 N63 off2 ne2 lt2
      obtain ⟨e, te, rfl, hej⟩ := strs_ofS hsr hv2
      have hel := newP_small e (List.mem_of_getElem? hej)
      clear F62 N62 hl63
      refine abs_C fun R3 R4 hR3 hR4 => ?_
      refine TestsP.nil_if ?_
      simp only [List.nil_append] at N63
      (try dsimp only)
      k_steps
      refine ⟨?_⟩
      refine len_S (by omega) fun _ _ => ?_
      (try dsimp only)
      rename Fr _ _ _ _ => F64
      rename News _ _ _ _ => N64
      refine hR3 _ _ <| CTurn.n0 F64 N64 (fun p hp => hp) ⟨rfl, ?_⟩
      rw [List.take_add_one, hej, Option.toList_some, List.map_append]
      exact hw.append (.cons _ _ .nil)
    · rintro D2' h63 tk63 ws nx ⟨rfl, hw⟩ F63 N63 off2
      rw [hsl, List.take_length] at hw
      clear F62 N62 off2
      simp only [List.nil_append] at N63
      (try dsimp only)
      k_steps
      refine ⟨?_⟩
      rename Fr _ _ _ _ => F64
      rename News _ _ _ _ => N64
      refine LSm.sum_ints F64 N64 rfl (listO_is (N64.get (.head _))) hw fun h65 tk65 t65 F65 N65 => ?_
      (try dsimp only)
      rw [size_new htx hil]
      refine hR' _ _ <| CTurn.n0 F65 N65 (fun p hp => .tail _ hp) ⟨rfl, ?_⟩
      rw [toldR_snoc]
      exact hz.append (.cons _ _ .nil)
  rintro Ds2 h66 tk66 sz2 nx ⟨rfl, hsz2⟩ F66 N66 off66
  rw [show ((rowsA rs2).map Value.ref).length = td.length by rw [List.length_map, rowsA, List.length_map, hrs2, htl]] at hsz2
  clear F60 N60 off66
  simp only [List.nil_append] at N66
  obtain ⟨olde, N67, q10, q9⟩ := one_done N66
  clear N66
  have lift : ∀ p ∈ old, p ∈ olde := fun p hp => q9 p (q7 p (q4 p (q3 p hp)))
  replace p1z := lift _ p1z
  replace p1d := lift _ p1d
  replace p1l := lift _ p1l
  replace p1k := lift _ p1k
  replace p2z := lift _ p2z
  replace p2d := lift _ p2d
  replace p2l := lift _ p2l
  replace p2k := lift _ p2k
  replace p3z := lift _ p3z
  replace p3d := lift _ p3d
  replace p3l := lift _ p3l
  replace p3k := lift _ p3k
  replace p4z := lift _ p4z
  replace p4d := lift _ p4d
  replace p4l := lift _ p4l
  replace p4k := lift _ p4k
  have e1 : (D1, lstO ((rowsA rs1).map Value.ref)) ∈ olde := q9 _ (q7 _ (q4 _ q1))
  have e2 : (D2, lstO ((rowsA rs2).map Value.ref)) ∈ olde := q9 _ (q7 _ q5)
  have e3 : (Ds1, lstO sz1) ∈ olde := q9 _ q8
  have e4 : (Ds2, lstO sz2) ∈ olde := q10
  have s1 : ∀ p ∈ rowsO rs1, p ∈ olde := fun p hp => q9 _ (q7 _ (q4 _ (q2 p hp)))
  have s2 : ∀ p ∈ rowsO rs2, p ∈ olde := fun p hp => q9 _ (q7 _ (q6 p hp))
  have hst3 := rowsN_take hst1 kept
  have hrs3 : (rs1.take kept).length = kept := by rw [List.length_take, hrs1]; omega
  have hrs2' : rs2.length = td.length := by rw [hrs2, htl]
  have zl1 := hsz1.length
  have zl2 := hsz2.length
  simp only [toldR, List.length_map, List.length_range] at zl1 zl2
  clear q1 q2 q3 q4 q5 q6 q7 q8 q9 q10 lift wm1 wm2 ws1 ws2 wl1 wl2
  (try dsimp only)
  k_steps
  refine ⟨?_⟩
  rename Fr _ _ _ _ => F70
  rename News _ _ _ _ => N70
  refine call_Fn (flat_spec w _ _ rfl _ (X.keeps F70.keep) (T.keeps F70.keep) D1 (rowsA rs1) (rowsV rs1) (listO_is (N70.get (.tail _ (.tail _ e1)))) (by simp [rowsA, rowsV]) (by have := rows_items N70 (rs := rs1) (fun p hp => (.tail _ (.tail _ (s1 p hp)))) rs1.length; rwa [List.take_length] at this) (by have := flat_len hrow (Nat.le_refl _) hrs1 hst1; omega)) rfl deep30 unit30 ?_
  rintro v h71 tk71 hk71 ⟨zf70, nf70, tf70, tg70, rfl, ff⟩
  have F71 := F70.keeps hk71
  have N71 := ff.news F70 (N70.grown hk71)
  simp only [List.cons_append, List.nil_append] at N71
  have hf70 := flat_strs hrow (Nat.le_refl _) hrs1 hst1 tf70 tg70
  clear F70 N70 ff hk71
  (try dsimp only)
  k_steps
  refine ⟨?_⟩
  rename Fr _ _ _ _ => F72
  rename News _ _ _ _ => N72
  refine ne_same (N72.get (.tail _ (.tail _ (.tail _ p1l)))) ha1 (N72.get (.head _)) hf70 (okS_mirs hrow (Nat.le_refl _)) unit64 ?_
  (try dsimp only)
  k_steps
  refine ⟨?_⟩
  rename Fr _ _ _ _ => F73
  rename News _ _ _ _ => N73
  refine ne_sameI (N73.get (.tail _ (.tail _ (.tail _ p1k)))) hr1 (N73.get (.tail _ (.tail _ (.tail _ e3)))) hsz1 unit64 ?_
  (try dsimp only)
  k_steps
  refine ⟨?_⟩
  rename Fr _ _ _ _ => F74
  rename News _ _ _ _ => N74
  refine call_Fn (flat_spec w _ _ rfl _ (X.keeps F74.keep) (T.keeps F74.keep) D2 (rowsA rs2) (rowsV rs2) (listO_is (N74.get (.tail _ (.tail _ (.tail _ e2))))) (by simp [rowsA, rowsV]) (by have := rows_items N74 (rs := rs2) (fun p hp => (.tail _ (.tail _ (.tail _ (s2 p hp))))) rs2.length; rwa [List.take_length] at this) (by have := flat_len htx (Nat.le_refl _) hrs2' hst2; omega)) rfl deep30 unit30 ?_
  rintro v h75 tk75 hk75 ⟨zf74, nf74, tf74, tg74, rfl, ff⟩
  have F75 := F74.keeps hk75
  have N75 := ff.news F74 (N74.grown hk75)
  simp only [List.cons_append, List.nil_append] at N75
  have hf74 := flat_strs htx (Nat.le_refl _) hrs2' hst2 tf74 tg74
  clear F74 N74 ff hk75
  (try dsimp only)
  k_steps
  refine ⟨?_⟩
  rename Fr _ _ _ _ => F76
  rename News _ _ _ _ => N76
  refine ne_same (N76.get (.tail _ (.tail _ (.tail _ (.tail _ p2l))))) ha2 (N76.get (.head _)) hf74 (okS_mirs htx (Nat.le_refl _)) unit64 ?_
  (try dsimp only)
  k_steps
  refine ⟨?_⟩
  rename Fr _ _ _ _ => F77
  rename News _ _ _ _ => N77
  refine ne_sameI (N77.get (.tail _ (.tail _ (.tail _ (.tail _ p2k))))) hr2 (N77.get (.tail _ (.tail _ (.tail _ (.tail _ e4))))) hsz2 unit64 ?_
  (try dsimp only)
  k_steps
  refine ⟨?_⟩
  rename Fr _ _ _ _ => F78
  rename News _ _ _ _ => N78
  refine slice_K F78 N78 (listO_is (N78.get (.tail _ (.tail _ (.tail _ (.tail _ e1)))))) .none (.int _ _) (by rw [List.length_map, rowsA, List.length_map, hrs1]; omega) fun Dc h79 F79 N79 lt79 => ?_
  rw [pick_to (Int.natCast_nonneg _), Int.toNat_natCast, show ((rowsA rs1).map Value.ref).take kept = (rowsA (rs1.take kept)).map Value.ref by simp [rowsA, List.map_take]] at N79
  clear F78 N78 lt79
  (try dsimp only)
  k_steps
  refine ⟨?_⟩
  rename Fr _ _ _ _ => F80
  rename News _ _ _ _ => N80
  refine call_Fn (flat_spec w _ _ rfl _ (X.keeps F80.keep) (T.keeps F80.keep) Dc (rowsA (rs1.take kept)) (rowsV (rs1.take kept)) (listO_is (N80.get (.head _))) (by simp [rowsA, rowsV]) (rows_items (rs := rs1) N80 (fun p hp => (.tail _ (.tail _ (.tail _ (.tail _ (.tail _ (s1 p hp))))))) kept) (by have := flat_len hrow hkl hrs3 hst3; omega)) rfl deep30 unit30 ?_
  rintro v h81 tk81 hk81 ⟨zf80, nf80, tf80, tg80, rfl, ff⟩
  have F81 := F80.keeps hk81
  have N81 := ff.news F80 (N80.grown hk81)
  simp only [List.cons_append, List.nil_append] at N81
  have hf80 := flat_strs hrow hkl hrs3 hst3 tf80 tg80
  clear F80 N80 ff hk81
  (try dsimp only)
  k_steps
  refine ⟨?_⟩
  rename Fr _ _ _ _ => F82
  rename News _ _ _ _ => N82
  refine ne_same (N82.get (.tail _ (.tail _ (.tail _ (.tail _ (.tail _ (.tail _ p3l))))))) ha3 (N82.get (.head _)) hf80 (okS_mirs hrow hkl) unit64 ?_
  (try dsimp only)
  k_steps
  refine ⟨?_⟩
  rename Fr _ _ _ _ => F83
  rename News _ _ _ _ => N83
  refine add_K F83 N83 (listO_is (N83.get (.tail _ (.tail _ (.tail _ (.tail _ (.tail _ (.tail _ e3)))))))) (listO_is (N83.get (.tail _ (.tail _ (.tail _ (.tail _ (.tail _ (.tail _ e4)))))))) (by omega) fun Dd h84 F84 N84 lt84 => ?_
  clear F83 N83 lt84
  (try dsimp only)
  k_steps
  refine ⟨?_⟩
  rename Fr _ _ _ _ => F85
  rename News _ _ _ _ => N85
  refine ne_sameI (N85.get (.tail _ (.tail _ (.tail _ (.tail _ (.tail _ (.tail _ (.tail _ p3k)))))))) (hr1.append hr2) (N85.get (.head _)) (hsz1.append hsz2) unit64 ?_
  (try dsimp only)
  k_steps
  refine ⟨?_⟩
  rename Fr _ _ _ _ => F86
  rename News _ _ _ _ => N86
  refine call_Fn (flat_spec w _ _ rfl _ (X.keeps F86.keep) (T.keeps F86.keep) D2 (rowsA rs2) (rowsV rs2) (listO_is (N86.get (.tail _ (.tail _ (.tail _ (.tail _ (.tail _ (.tail _ (.tail _ e2))))))))) (by simp [rowsA, rowsV]) (by have := rows_items N86 (rs := rs2) (fun p hp => (.tail _ (.tail _ (.tail _ (.tail _ (.tail _ (.tail _ (.tail _ (s2 p hp))))))))) rs2.length; rwa [List.take_length] at this) (by have := flat_len htx (Nat.le_refl _) hrs2' hst2; omega)) rfl deep30 unit30 ?_
  rintro v h87 tk87 hk87 ⟨zf86, nf86, tf86, tg86, rfl, ff⟩
  have F87 := F86.keeps hk87
  have N87 := ff.news F86 (N86.grown hk87)
  simp only [List.cons_append, List.nil_append] at N87
  have hf86 := flat_strs htx (Nat.le_refl _) hrs2' hst2 tf86 tg86
  clear F86 N86 ff hk87
  (try dsimp only)
  k_steps
  refine ⟨?_⟩
  rename Fr _ _ _ _ => F88
  rename News _ _ _ _ => N88
  refine ne_same (N88.get (.tail _ (.tail _ (.tail _ (.tail _ (.tail _ (.tail _ (.tail _ (.tail _ p4l))))))))) ha4 (N88.get (.head _)) hf86 (okS_mirs htx (Nat.le_refl _)) unit64 ?_
  (try dsimp only)
  k_steps
  refine ⟨?_⟩
  rename Fr _ _ _ _ => F89
  rename News _ _ _ _ => N89
  refine add_K F89 N89 (listO_is (N89.get (.tail _ (.tail _ (.tail _ (.tail _ (.tail _ (.tail _ (.tail _ (.tail _ e4)))))))))) (listO_is (N89.get (.tail _ (.tail _ (.tail _ (.tail _ (.tail _ (.tail _ (.tail _ (.tail _ e3)))))))))) (by omega) fun De h90 F90 N90 lt90 => ?_
  clear F89 N89 lt90
  (try dsimp only)
  k_steps
  refine ⟨?_⟩
  rename Fr _ _ _ _ => F91
  rename News _ _ _ _ => N91
  refine ne_sameI (N91.get (.tail _ (.tail _ (.tail _ (.tail _ (.tail _ (.tail _ (.tail _ (.tail _ (.tail _ p4k)))))))))) (hr2.append hr1) (N91.get (.head _)) (hsz2.append hsz1) unit64 ?_
  (try dsimp only)
  k_steps
  refine ⟨?_⟩
  rename Fr _ _ _ _ => F92
  rename News _ _ _ _ => N92
  refine call_Fn (overlap_spec w _ _ rfl _ (X.keeps F92.keep) (T.keeps F92.keep) _ _ (by omega)) rfl deep20 unit20 ?_
  rintro v h93 tk93 hk93 ⟨y1, ts1, c1, rfl, ez1, iz1⟩
  have F93 := F92.keeps hk93
  have N93 := N92.grown hk93
  clear F92 N92 hk93
  (try dsimp only)
  k_steps
  refine ⟨?_⟩
  rename Fr _ _ _ _ => F94
  rename News _ _ _ _ => N94
  refine call_Fn (table_spec w _ _ rfl _ (X.keeps F94.keep) (T.keeps F94.keep) _ _ (by omega)) rfl deep30 unit30 ?_
  rintro v h95 tk95 hk95 ⟨y2, ts2, c2, rfl, ez2, iz2⟩
  have F95 := F94.keeps hk95
  have N95 := N94.grown hk95
  have ez3 := hk95 _ _ ez1
  clear F94 N94
  (try dsimp only)
  k_steps
  refine ⟨?_⟩
  refine eq_intsK (listO_is ez3) iz1 (listO_is ez2) iz2 unit64 ?_
  rw [decide_eq_true rfl]
  k_steps
  refine hR _ _ ?_
  k_steps
  )
end Mine
end
theorem PySem.Challenge.cw_wn0034_02_holds : PySem.Challenge.rw_wn0034_02.Holds :=
  Mine.law2
