import PyProof.Rows.All
import Wide.All
import OpenK.AllK
import Wide.FinOn
import PySem.Challenge.RW_wn0034_01
set_option Elab.async false
local macro_rules | `(tactic| omega) => `(tactic| first | lia | omega +splitDisjunctions)
namespace Mine
end Mine
section
open PySem PySem.W PyProof.Rows
set_option Elab.async false
set_option maxRecDepth 100000
set_option maxHeartbeats 8000000
open_top hd1 for PySem.Challenge.rw_wn0034_01
end
section
open PySem PySem.W PySem.Calls PyProof.Rows
namespace Mine

abbrev Ext (h h' : Heap) : Prop := ∀ b o, h.get? b = some o → h'.get? b = some o
theorem Ext.refl (h : Heap) : Ext h h := fun _ _ e => e
theorem Ext.trans {a b c : Heap} (x : Ext a b) (y : Ext b c) : Ext a c := fun b o e => y b o (x b o e)

abbrev Ar (dp un : Nat) (fr : Option (List Env)) (gd : Option (List Code)) : Around := { handled := none, depth := dp, frames := fr, guards := gd, units := un }

/-- the walk pauses here -/
structure Halt (P : Prop) : Prop where
  out : P

/-- nothing is raised -/
abbrev F0 : Value → Shared → Prop := fun _ _ => False

/-- what a call hands back: a value, and a heap that has only grown -/
structure Back (s : Shared) (P : Value → Heap → Prop) (v : Value) (s' : Shared) : Prop where
  out : ∃ h' tk, s' = { s with heap := h', toks := tk } ∧ Ext s.heap h' ∧ P v h'

def Fn (n : Nat) (prog : Program) (w : World) (f : Addr) (vs : List Value) (P : Value → Heap → Prop) (s : Shared) : Prop :=
  ∀ dp un fr gd, dp + n < recursionLimit → un + 100 * n < cLine →
    codeAny (model prog w) (Ar dp un fr gd) (.call (.ref f) ⟨vs, []⟩)
      (fun r s' => match r with | .ok (.ret v) => Back s P v s' | _ => False) s

theorem call_Fn {n : Nat} {prog : Program} {w : World} {f : Addr} {vs : List Value} {P : Value → Heap → Prop} {s : Shared} {A : Around} {Q E : Value → Shared → Prop}
    (hf : Fn n prog w f vs P s) (hh : A.handled = none) (hd : A.depth + n < recursionLimit) (hu : A.units + 100 * n < cLine)
    (h : ∀ v h' tk, Ext s.heap h' → P v h' → Q v { s with heap := h', toks := tk }) :
    wpAny (model prog w) A (call (.ref f) vs) Q E s := by
  obtain ⟨hd', d, fr, gs, u⟩ := A
  simp only at hh hd hu
  subst hh
  refine wpAny_call (codeAny_mono (hf d u fr gs hd hu) fun r s' hr => ?_)
  cases r with
  | error e => exact hr.elim
  | ok fl =>
    cases fl with
    | ret v => obtain ⟨h', tk, rfl, hk, hp⟩ := hr; exact h v h' tk hk hp
    | _ => exact hr.elim

section
variable {prog : Program} {w : World} {s : Shared} {K : Frag} {name qual : Str} {params : Arguments} {body : List Stmt} {scope : Scope} {dV kV doc pm cdv ct oc : Value} {an od : Option Addr} {osl : Array (Option Value)} {f : Addr} {vs : List Value} {binds : List (Str × Value)} {P : Value → Heap → Prop} {n : Nat}

theorem Fn.of_body (X : K.In s.heap) (hlim : s.heap.NoLimit)
    (ho : K.lookup f = some ⟨oc, od, .func (fnOf name qual params body scope dV kV doc pm an cdv ct), osl⟩) (hcd : codeIn K cdv qual = true)
    (hbind : BindsTo s (fnOf name qual params body scope dV kV doc pm an cdv ct) ⟨vs, []⟩ binds) (hloc : ∀ y ∈ binds, scope.names.lookup y.1 = some .local)
    (h : ∀ dp un fr gd L' h₁, dp + n < recursionLimit → un + 100 * n < cLine → Fr s.heap L' h₁ (fun y => binds.reverse.lookup y) →
      wpAny (model prog w) (Ar (dp + 1) (un + 3) fr gd) (execs body (envOf qual scope L' f cdv))
        (fun fl s' => Back s P (match fl with | .ret v => v | _ => .none) s') F0
        { s with heap := h₁, toks := s.toks + binds.length })
    (hco : scope.isCoroutine = false := by rfl) (hgen : scope.isGenerator = false := by rfl) (hk : scope.kind = .function := by rfl)
    (hcell : ∀ x ∈ scope.names, x.2 ≠ .cell := by decide) : Fn n prog w f vs P s := by
  intro dp un fr gd hdp hun
  refine codeAny_call_def (fd := fnOf name qual params body scope dV kV doc pm an cdv ct) (body := body) (binds := binds) (by simp only; omega) (X _ _ ho) rfl hlim (codeRec_of X hcd) rfl hbind hcell hloc (fun h₁ hns hk₁ => ?_) hco hgen hk
  exact wpAny_mono (h dp un _ _ s.heap.objs.size h₁ hdp hun ⟨hns, hk₁, Nat.le_refl _⟩) (fun fl s' hb => hb) fun _ _ hf => hf.elim

/-- the same for a def whose locals are captured -/
theorem Fn.of_bodyC (X : K.In s.heap) (hlim : s.heap.NoLimit)
    (ho : K.lookup f = some ⟨oc, od, .func (fnOf name qual params body scope dV kV doc pm an cdv ct), osl⟩) (hcd : codeIn K cdv qual = true)
    (hbind : BindsTo s (fnOf name qual params body scope dV kV doc pm an cdv ct) ⟨vs, []⟩ binds)
    (hkind : (binds.all fun y => scope.names.lookup y.1 == some .local || scope.names.lookup y.1 == some .cell) = true)
    (hnd : ((cellsFrom 0 scope.names []).map (·.1)).Nodup)
    (h : ∀ dp un fr gd L' h₁ tk cells, dp + n < recursionLimit → un + 100 * n < cLine → Fr s.heap L' h₁ (bindL (envOfC qual scope L' f cdv).kindOf binds fun _ => none) →
      News s.heap L' h₁ cells → CellsAre (bindC (envOfC qual scope L' f cdv).kindOf binds fun _ => none) (cellsFrom (L' + 1) scope.names []) cells →
      wpAny (model prog w) (Ar (dp + 1) (un + 3) fr gd) (execs body (envOfC qual scope L' f cdv))
        (fun fl s' => Back s P (match fl with | .ret v => v | _ => .none) s') F0
        { s with heap := h₁, toks := tk })
    (hco : scope.isCoroutine = false := by rfl) (hgen : scope.isGenerator = false := by rfl) (hk : scope.kind = .function := by rfl) : Fn n prog w f vs P s := by
  intro dp un fr gd hdp hun
  refine codeAny_call_function (by simp only; omega) (X _ _ ho) rfl hco hgen rfl (codeRec_of X hcd) (hbind _ _ _ _ ?_)
  refine wpAny_newFunctionEnv_cells hk (kindsX hkind _) fun env' he s' x => ?_
  subst he
  refine ⟨hlim.keeps x.toInCall.keep, codeAny_func ?_⟩
  obtain ⟨h₁, tk, rfl, _⟩ := x.done
  have hk₁ := x.toInCall.keep
  obtain ⟨cells, NC, Y⟩ := Cl.news (h₀ := s.heap) (Nat.le_refl _) fun n c hm => ⟨x.cell n c (lookup_of_mem_nodup (cellsFrom_names scope.names 0 (s.heap.objs.size + 1) [] [] rfl ▸ hnd) hm), x.above n c hm⟩
  exact wpAny_mono (h dp un _ _ s.heap.objs.size h₁ tk cells hdp hun ⟨x.toInCall.ns, hk₁, Nat.le_refl _⟩ NC Y) (fun fl s' hb => hb) fun _ _ hf => hf.elim

theorem Back.intro {h' : Heap} {tk : Nat} {L : Addr} {m : Str → Option Value} {v : Value} (F : Fr s.heap L h' m) (hp : P v h') : Back s P v { s with heap := h', toks := tk } := ⟨h', tk, rfl, F.keep, hp⟩
end

/-- the end of a loop's turn -/
structure TurnEnd (h₀ : Heap) (L : Addr) (J : (Str → Option Value) → List (Addr × Obj) → Prop) (own : List (Addr × Obj)) (I : Option Addr) (s s' : Shared) : Prop where
  out : ∃ h' tk m' nx news', s' = { s with heap := h', toks := tk } ∧ Fr h₀ L h' m' ∧ News h₀ L h' news' ∧ (∀ p ∈ nx, p ∈ news') ∧ (∀ p ∈ own, p ∈ news') ∧ (∀ p ∈ nx, some p.1 ≠ I) ∧ J m' nx

theorem TurnEnd.intro {h₀ : Heap} {L : Addr} {J : (Str → Option Value) → List (Addr × Obj) → Prop} {own : List (Addr × Obj)} {I : Option Addr} {s : Shared} {h' : Heap} {tk : Nat} {m' : Str → Option Value} (nx news' : List (Addr × Obj))
    (F : Fr h₀ L h' m') (N : News h₀ L h' news') (h1 : ∀ p ∈ nx, p ∈ news') (h2 : ∀ p ∈ own, p ∈ news') (h3 : ∀ p ∈ nx, some p.1 ≠ I) (hj : J m' nx) : TurnEnd h₀ L J own I s { s with heap := h', toks := tk } :=
  ⟨h', tk, m', nx, news', rfl, F, N, h1, h2, h3, hj⟩

theorem TurnEnd.split {h₀ : Heap} {L : Addr} {J : (Str → Option Value) → List (Addr × Obj) → Prop} {own : List (Addr × Obj)} {I : Addr} {s : Shared} {h' : Heap} {tk : Nat} {m' : Str → Option Value} (nx : List (Addr × Obj))
    (F : Fr h₀ L h' m') (N : News h₀ L h' (nx ++ own)) (h3 : ∀ p ∈ nx, p.1 ≠ I) (hj : J m' nx) : TurnEnd h₀ L J own (some I) s { s with heap := h', toks := tk } :=
  .intro nx _ F N (fun _ h => List.mem_append_left _ h) (fun _ h => List.mem_append_right _ h) (fun p hp e => h3 p hp (Option.some.inj e)) hj
theorem TurnEnd.n0 {h₀ : Heap} {L : Addr} {J : (Str → Option Value) → List (Addr × Obj) → Prop} {own : List (Addr × Obj)} {I : Addr} {s : Shared} {h' : Heap} {tk : Nat} {m' : Str → Option Value}
    (F : Fr h₀ L h' m') (N : News h₀ L h' own) (hj : J m' []) : TurnEnd h₀ L J own (some I) s { s with heap := h', toks := tk } := .split [] F N (fun _ h => (nomatch h)) hj
theorem TurnEnd.n1 {h₀ : Heap} {L : Addr} {J : (Str → Option Value) → List (Addr × Obj) → Prop} {own : List (Addr × Obj)} {I : Addr} {s : Shared} {h' : Heap} {tk : Nat} {m' : Str → Option Value} {a : Addr × Obj}
    (F : Fr h₀ L h' m') (N : News h₀ L h' (a :: own)) (h3 : a.1 ≠ I) (hj : J m' [a]) : TurnEnd h₀ L J own (some I) s { s with heap := h', toks := tk } := .split [a] F N (fun p hp => List.mem_singleton.mp hp ▸ h3) hj
/-- the end of a while's turn -/
theorem TurnEnd.w {h₀ : Heap} {L : Addr} {J : (Str → Option Value) → List (Addr × Obj) → Prop} {s : Shared} {h' : Heap} {tk : Nat} {m' : Str → Option Value} {nx : List (Addr × Obj)}
    (F : Fr h₀ L h' m') (N : News h₀ L h' nx) (hj : J m' nx) : TurnEnd h₀ L J [] none s { s with heap := h', toks := tk } := .intro nx nx F N (fun _ h => h) (fun _ h => (nomatch h)) (fun _ _ e => nomatch e) hj
theorem TurnEnd.rebase {h₀ : Heap} {L : Addr} {J : (Str → Option Value) → List (Addr × Obj) → Prop} {own : List (Addr × Obj)} {I : Option Addr} {s s' : Shared} {h : Heap} {tk : Nat} (x : TurnEnd h₀ L J own I s s') :
    TurnEnd h₀ L J own I { s with heap := h, toks := tk } s' := by
  obtain ⟨h', tk', m', nx, news', rfl, r⟩ := x
  exact ⟨h', tk', m', nx, news', rfl, r⟩

theorem turn_rebase {M : Model} {A : Around} {env : Env} {target : Expr} {v : Value} {body : List Stmt} {h₀ : Heap} {L : Addr} {J : (Str → Option Value) → List (Addr × Obj) → Prop} {own : List (Addr × Obj)} {I : Option Addr} {s s₁ : Shared} {h : Heap} {tk : Nat} {Q : Flow → Shared → Prop}
    (x : wpAny M A (assign target env v) (fun _ s₂ => wpAny M A (execs body env) (fun f s₃ => match f with
          | .next | .cont => TurnEnd h₀ L J own I s s₃
          | .brk => Q .next s₃
          | .ret v => Q (.ret v) s₃) F0 s₂) F0 s₁) :
    wpAny M A (assign target env v) (fun _ s₂ => wpAny M A (execs body env) (fun f s₃ => match f with
          | .next | .cont => TurnEnd h₀ L J own I { s with heap := h, toks := tk } s₃
          | .brk => Q .next s₃
          | .ret v => Q (.ret v) s₃) F0 s₂) F0 s₁ :=
  wpAny_mono x (fun _ _ y => wpAny_mono y (fun f _ z => by cases f with
    | next => exact z.rebase
    | cont => exact z.rebase
    | brk => exact z
    | ret v => exact z) fun _ _ e => e) fun _ _ e => e

theorem off_iter {h₀ h : Heap} {L I : Addr} {nx news : List (Addr × Obj)} {oI : Obj} (N : News h₀ L h news) (h1 : ∀ p ∈ nx, p ∈ news) (hI : (I, oI) ∈ news) (hne : ∀ p ∈ nx, p.2 ≠ oI) : ∀ p ∈ nx, some p.1 ≠ some I := by
  intro p hp e
  have e := Option.some.inj e
  have a := (N p (h1 p hp)).1
  have b := (N _ hI).1
  rw [e] at a
  rw [a] at b
  exact hne p hp (Option.some.inj b)

section
variable {prog : Program} {w : World} {A : Around} {s : Shared} {env : Env} {h₀ : Heap} {Q : Flow → Shared → Prop}

def RunQ (M : Model) (A : Around) (env : Env) (Q : Flow → Shared → Prop) (r : Result) (s' : Shared) : Prop :=
  match r with | .ok f => Q f s' | .error e => cameBackBy M A env F0 e s'

theorem While_J {test : Expr} {body orelse : List Stmt} {pos : Pos} {m : Str → Option Value} {news : List (Addr × Obj)} (J : Nat → (Str → Option Value) → List (Addr × Obj) → Prop) (n : Nat)
    (F : Fr h₀ env.locals s.heap m) (N : News h₀ env.locals s.heap news) (hj : J n m news)
    (turn : ∀ n m₁ nx h tk, J n m₁ nx → Fr h₀ env.locals h m₁ → News h₀ env.locals h nx →
      wpAny (model prog w) A (isTrue test env (eval test env)) (fun b s₂ =>
        if b then wpAny (model prog w) A (execs body env) (fun f s₃ => match f with
            | .next | .cont => TurnEnd h₀ env.locals (fun m' nx' => ∃ k, k < n ∧ J k m' nx') [] none s s₃
            | .brk => Q .next s₃
            | .ret v => Q (.ret v) s₃) F0 s₂
        else wpAny (model prog w) A (execs orelse env) Q F0 s₂) F0 { s with heap := h, toks := tk }) :
    wpAny (model prog w) A (exec (.While test body orelse pos) env) Q F0 s := by
  refine wpAny_While ?_
  refine codeAny_whileLoop (fun n s' => ∃ h tk m₁ nx, s' = { s with heap := h, toks := tk } ∧ J n m₁ nx ∧ Fr h₀ env.locals h m₁ ∧ News h₀ env.locals h nx) ?_ n ⟨s.heap, s.toks, m, news, rfl, hj, F, N⟩
  rintro n s' ⟨h, tk, m₁, nx, rfl, hJ, F₁, N₁⟩
  refine wpAny_mono (turn n m₁ nx h tk hJ F₁ N₁) (fun b s₂ hb => ?_) fun _ _ e => e.elim
  cases b with
  | false =>
    simp only [Bool.false_eq_true, if_false] at hb ⊢
    exact wpAny_mono hb (fun _ _ x => x) fun _ _ e => e.elim
  | true =>
    simp only [if_true] at hb ⊢
    refine wpAny_mono hb (fun f s₃ hf => ?_) fun _ _ e => e.elim
    have fin : TurnEnd h₀ env.locals (fun m' nx' => ∃ k, k < n ∧ J k m' nx') [] none s s₃ → ∃ m, m < n ∧ ∃ h tk m₁ nx, s₃ = { s with heap := h, toks := tk } ∧ J m m₁ nx ∧ Fr h₀ env.locals h m₁ ∧ News h₀ env.locals h nx := by
      rintro ⟨h', tk', m', nx', news', rfl, F', N', h1, _, _, k, hk, hJ'⟩
      exact ⟨k, hk, h', tk', m', nx', rfl, hJ', F', fun p hp => N' p (h1 p hp)⟩
    cases f with
    | next => exact fin hf
    | cont => exact fin hf
    | brk => exact hf
    | ret v => exact hf

theorem For_J {target : Expr} {body orelse : List Stmt} {I : Addr} {src : List Addr} {n : Nat} {P : Nat → Value → Prop} {St : Nat → Heap → Prop} {m : Str → Option Value} {news old : List (Addr × Obj)}
    (J : Nat → (Str → Option Value) → List (Addr × Obj) → Prop)
    (W : Walks prog w A I (I :: src) [I] n P St) (hlive : ∀ i h, St i h → ∃ o, h.get? I = some o) (hIL : I ≠ env.locals) (hI : h₀.get? I = none) (hst : St 0 s.heap) (F : Fr h₀ env.locals s.heap m) (N : News h₀ env.locals s.heap (news ++ old))
    (hoff : ∀ p ∈ news ++ old, p.1 ≠ I) (hj : J 0 m news)
    (hsrc : ∀ i m₁ nx h, i ≤ n → J i m₁ nx → Fr h₀ env.locals h m₁ → News h₀ env.locals h (nx ++ old) → ∀ b ∈ src, ∀ o, s.heap.get? b = some o → h.get? b = some o)
    (hsok : ∀ b ∈ src, b ≠ I ∧ ∃ o, s.heap.get? b = some o)
    (turn : ∀ i v m₁ nx h tk oI, i < n → P i v → J i m₁ nx → (∀ p ∈ nx, p.1 ≠ I) → St (i + 1) h → Fr h₀ env.locals h m₁ → News h₀ env.locals h (nx ++ (I, oI) :: old) →
      wpAny (model prog w) A (assign target env v) (fun _ s₂ => wpAny (model prog w) A (execs body env) (fun f s₃ => match f with
          | .next | .cont => TurnEnd h₀ env.locals (J (i + 1)) ((I, oI) :: old) (some I) s s₃
          | .brk => Q .next s₃
          | .ret v => Q (.ret v) s₃) F0 s₂) F0 { s with heap := h, toks := tk })
    (done : ∀ m₁ nx h tk, J n m₁ nx → Fr h₀ env.locals h m₁ → News h₀ env.locals h (nx ++ old) → wpAny (model prog w) A (execs orelse env) Q F0 { s with heap := h, toks := tk })
    (ht : ∀ v, letOwnedTupleGo target (.ref I) v = pure () := by intro _; rfl) :
    codeAny (model prog w) A (.forLoop target (.ref I) body orelse env) (RunQ (model prog w) A env Q) s := by
  refine codeAny_forLoop (ht := ht)
    (fun k s' => ∃ h tk m₁ nx i, s' = { s with heap := h, toks := tk } ∧ St i h ∧ Fr h₀ env.locals h m₁ ∧ News h₀ env.locals h (nx ++ old) ∧ (∀ p ∈ nx ++ old, p.1 ≠ I) ∧ J i m₁ nx ∧ i ≤ n ∧ k = n + 1 - i) ?_ (n + 1)
    ⟨s.heap, s.toks, m, news, 0, rfl, hst, F, N, hoff, hj, Nat.zero_le _, rfl⟩
  rintro k s' ⟨h, tk, m₁, nx, i, rfl, hst', F', N', hoff', hJ, hi, rfl⟩
  have next : ∀ h₁ : Heap, (∀ b o, b ∉ [I] → h.get? b = some o → h₁.get? b = some o) → Fr h₀ env.locals h₁ m₁ ∧ News h₀ env.locals h₁ (nx ++ old) := fun h₁ hk₁ =>
    ⟨⟨F'.ns.at' fun o e => hk₁ _ o (by simpa using Ne.symm hIL) e, fun b o e => hk₁ b o (by simp only [List.mem_singleton]; rintro rfl; rw [hI] at e; cases e) (F'.keep b o e), F'.above⟩,
      fun p hp => ⟨hk₁ _ _ (by simpa using hoff' p hp) (N' p hp).1, (N' p hp).2⟩⟩
  by_cases hlt : i < n
  · refine wpAny_mono (W.item i _ (fun r s₁ => ∃ v h₁ tk₁, r = some v ∧ s₁ = { s with heap := h₁, toks := tk₁ } ∧ P i v ∧ St (i + 1) h₁ ∧ (∀ b o, b ∉ [I] → h.get? b = some o → h₁.get? b = some o)) F0 hlt hst' fun v h₁ tk₁ hP hst₁ hk₁ => ⟨v, h₁, tk₁, rfl, rfl, hP, hst₁, hk₁⟩) (fun r s₁ hr => ?_) fun _ _ e => e.elim
    obtain ⟨v, h₁, tk₁, rfl, rfl, hP, hst₁, hk₁⟩ := hr
    obtain ⟨F₁, N₁⟩ := next h₁ hk₁
    obtain ⟨oI, hoI⟩ := hlive _ _ hst₁
    have N₂ : News h₀ env.locals h₁ (nx ++ (I, oI) :: old) := by
      intro p hp
      rcases List.mem_append.mp hp with h1 | h1
      · exact N₁ p (List.mem_append_left _ h1)
      · rcases List.mem_cons.mp h1 with rfl | h1
        · exact ⟨hoI, hIL, hI⟩
        · exact N₁ p (List.mem_append_right _ h1)
    refine wpAny_mono (turn i v m₁ nx h₁ tk₁ oI hlt hP hJ (fun p hp => hoff' p (List.mem_append_left _ hp)) hst₁ F₁ N₂) (fun _ s₂ h₂ => wpAny_mono h₂ (fun f s₃ h₃ => ?_) fun _ _ e => e.elim) fun _ _ e => e.elim
    have fin : TurnEnd h₀ env.locals (J (i + 1)) ((I, oI) :: old) (some I) s s₃ → ∃ m, m < n + 1 - i ∧ ∃ h tk m₁ nx i, s₃ = { s with heap := h, toks := tk } ∧ St i h ∧ Fr h₀ env.locals h m₁ ∧ News h₀ env.locals h (nx ++ old) ∧ (∀ p ∈ nx ++ old, p.1 ≠ I) ∧ J i m₁ nx ∧ i ≤ n ∧ m = n + 1 - i := by
      rintro ⟨h', tk', m', nx', news', rfl, Fz, Nz, h1, h2, h3, hJ'⟩
      have hIz : h'.get? I = some oI := (Nz _ (h2 _ (.head _))).1
      have Nn : News h₀ env.locals h' (nx' ++ old) := fun p hp => Nz p ((List.mem_append.mp hp).elim (h1 p) fun q => h2 p (.tail _ q))
      refine ⟨n + 1 - (i + 1), by omega, h', tk', m', nx', i + 1, rfl, ?_, Fz, Nn, ?_, hJ', hlt, rfl⟩
      · refine W.frame _ _ _ hst₁ fun b hb o e => ?_
        rcases List.mem_cons.mp hb with rfl | hb
        · rw [hIz, ← hoI]; exact e
        · obtain ⟨hbI, ob, hob⟩ := hsok b hb
          have e0 := hsrc i m₁ nx h (by omega) hJ F' N' b hb ob hob
          have e1 := hk₁ b ob (by simpa using hbI) e0
          rw [e1] at e; cases e
          exact hsrc (i + 1) m' nx' h' (by omega) hJ' Fz Nn b hb _ hob
      · intro p hp
        rcases List.mem_append.mp hp with q | q
        · exact fun e => h3 p q (congrArg some e)
        · exact hoff' p (List.mem_append_right _ q)
    cases f with
    | next => exact fin h₃
    | cont => exact fin h₃
    | brk => exact h₃
    | ret v => exact h₃
  · have hin : i = n := by omega
    subst hin
    refine wpAny_mono (W.done _ (fun r s₁ => ∃ h₁ tk₁, r = none ∧ s₁ = { s with heap := h₁, toks := tk₁ } ∧ (∀ b o, b ∉ [I] → h.get? b = some o → h₁.get? b = some o)) F0 hst' fun h₁ tk₁ hk₁ => ⟨h₁, tk₁, rfl, rfl, hk₁⟩) (fun r s₁ hr => ?_) fun _ _ e => e.elim
    obtain ⟨h₁, tk₁, rfl, rfl, hk₁⟩ := hr
    obtain ⟨F₁, N₁⟩ := next h₁ hk₁
    exact wpAny_mono (done m₁ nx h₁ tk₁ hJ F₁ N₁) (fun _ _ x => x) fun _ _ e => e.elim

/-- `for .. in range(..)`: at the iterator's making -/
theorem For_range_J {target : Expr} {body orelse : List Stmt} {r : Addr} {a b : Int} {t u v : Tok} {n : Nat} {m : Str → Option Value} {news old : List (Addr × Obj)}
    (J : Nat → (Str → Option Value) → List (Addr × Obj) → Prop)
    (hh : A.handled = none) (hr : IsRange s.heap r a b 1 t u v) (hsmall : Builtin.Range.small a b 1 = true) (hn : Builtin.Range.rangeSize a b 1 = (n : Int))
    (F : Fr h₀ env.locals s.heap m) (N : News h₀ env.locals s.heap (news ++ old)) (hj : J 0 m news)
    (turn : ∀ (i : Nat) t m₁ nx h tk I oI, i < n → J i m₁ nx → s.heap.objs.size = I → (∀ p ∈ nx, p.1 ≠ I) → (∃ vs, oI = { cls := .type "range_iterator", data := .fields vs }) → Fr h₀ env.locals h m₁ → News h₀ env.locals h (nx ++ (I, oI) :: old) →
      wpAny (model prog w) A (assign target env (.int (a + i) t)) (fun _ s₂ => wpAny (model prog w) A (execs body env) (fun f s₃ => match f with
          | .next | .cont => TurnEnd h₀ env.locals (J (i + 1)) ((I, oI) :: old) (some I) s s₃
          | .brk => Q .next s₃
          | .ret v => Q (.ret v) s₃) F0 s₂) F0 { s with heap := h, toks := tk })
    (done : ∀ m₁ nx h tk, J n m₁ nx → Fr h₀ env.locals h m₁ → News h₀ env.locals h (nx ++ old) → wpAny (model prog w) A (execs orelse env) Q F0 { s with heap := h, toks := tk })
    (ht : ∀ I v, letOwnedTupleGo target (.ref I) v = pure () := by intro _ _; rfl) :
    wpAny (model prog w) A (pyIter (.ref r)) (fun it s₂ => codeAny (model prog w) A (.forLoop target it body orelse env) (fun r s' => match r with | .ok f => Q f s' | .error e => cameBackBy (model prog w) A env F0 e s') s₂) F0 s := by
  refine wpAny_pyIter_range hr hsmall ?_
  have W := Walks.range (prog := prog) (w := w) hh s.heap.objs.size a 1 n
  refine For_J (h₀ := h₀) (Q := Q) (src := []) (news := news) (old := old) J W (fun i h st => ⟨_, st⟩) (Nat.ne_of_gt F.ns.lt) ?_ ?_ (F.push _) (fun p hp => ⟨Heap.get?_push_of_some _ (N p hp).1, (N p hp).2⟩) ?_ hj (by simp) (by simp) ?_ ?_ (ht _)
  · cases e : h₀.get? s.heap.objs.size with
    | none => rfl
    | some o => exact absurd (Heap.lt_size (F.keep _ _ e)) (Nat.lt_irrefl _)
  · show IsRangeIter _ _ _ _ _
    rw [hn]; simpa using Heap.get?_push_size _ rfl
  · intro p hp e
    exact absurd (Heap.lt_size (N p hp).1) (by rw [e]; exact Nat.lt_irrefl _)
  · intro i v m₁ nx h tk oI hi hP hJ hoff hst F₁ N₁
    obtain ⟨t, rfl⟩ := hP
    have := turn i t m₁ nx h tk s.heap.objs.size oI hi hJ rfl hoff ?_ F₁ N₁
    · rw [Int.mul_one]; exact turn_rebase this
    · have := (N₁ (s.heap.objs.size, oI) (by simp)).1
      rw [show h.get? s.heap.objs.size = some _ from hst] at this
      exact ⟨_, (Option.some.inj this).symm⟩
  · intro m₁ nx h tk hJ F₁ N₁
    exact done m₁ nx h tk hJ F₁ N₁

/-- `for .. in l`, l a list that stays as it is -/
theorem For_list_J {target : Expr} {body orelse : List Stmt} {l : Addr} {vs : List Value} {m : Str → Option Value} {news old : List (Addr × Obj)}
    (J : Nat → (Str → Option Value) → List (Addr × Obj) → Prop)
    (hh : A.handled = none) (hl : s.heap.IsList l vs.toArray)
    (F : Fr h₀ env.locals s.heap m) (N : News h₀ env.locals s.heap (news ++ old)) (hj : J 0 m news)
    (hsrc : ∀ i m₁ nx h, i ≤ vs.length → J i m₁ nx → Fr h₀ env.locals h m₁ → News h₀ env.locals h (nx ++ old) → ∀ o, s.heap.get? l = some o → h.get? l = some o)
    (turn : ∀ (i : Nat) v m₁ nx h tk I oI, i < vs.length → vs[i]? = some v → J i m₁ nx → s.heap.objs.size = I → (∀ p ∈ nx, p.1 ≠ I) → (∃ vs, oI.data = .fields vs) → h.IsList l vs.toArray → Fr h₀ env.locals h m₁ → News h₀ env.locals h (nx ++ (I, oI) :: old) →
      wpAny (model prog w) A (assign target env v) (fun _ s₂ => wpAny (model prog w) A (execs body env) (fun f s₃ => match f with
          | .next | .cont => TurnEnd h₀ env.locals (J (i + 1)) ((I, oI) :: old) (some I) s s₃
          | .brk => Q .next s₃
          | .ret v => Q (.ret v) s₃) F0 s₂) F0 { s with heap := h, toks := tk })
    (done : ∀ m₁ nx h tk, J vs.length m₁ nx → Fr h₀ env.locals h m₁ → News h₀ env.locals h (nx ++ old) → wpAny (model prog w) A (execs orelse env) Q F0 { s with heap := h, toks := tk })
    (ht : ∀ I v, letOwnedTupleGo target (.ref I) v = pure () := by intro _ _; rfl) :
    wpAny (model prog w) A (pyIter (.ref l)) (fun it s₂ => codeAny (model prog w) A (.forLoop target it body orelse env) (fun r s' => match r with | .ok f => Q f s' | .error e => cameBackBy (model prog w) A env F0 e s') s₂) F0 s := by
  refine wpAny_pyIter_list hl ?_
  obtain ⟨ol, hol, rl⟩ := id hl
  have hlI : l ≠ s.heap.objs.size := Nat.ne_of_lt (Heap.lt_size hol)
  have W := Walks.list (prog := prog) (w := w) hh s.heap.objs.size l hlI vs.toArray
  have hlen : vs.toArray.size = vs.length := by simp
  rw [hlen] at W
  refine For_J (h₀ := h₀) (Q := Q) (src := [l]) (news := news) (old := old) J W (fun i h st => by obtain ⟨⟨o, ho, _⟩, _⟩ := st; exact ⟨o, ho⟩) (Nat.ne_of_gt F.ns.lt) ?_ ⟨⟨_, Heap.get?_push_size _ rfl, rfl, rfl⟩, hl.push _⟩ (F.push _) (fun p hp => ⟨Heap.get?_push_of_some _ (N p hp).1, (N p hp).2⟩) ?_ hj ?_ ?_ ?_ ?_ (ht _)
  · cases e : h₀.get? s.heap.objs.size with
    | none => rfl
    | some o => exact absurd (Heap.lt_size (F.keep _ _ e)) (Nat.lt_irrefl _)
  · intro p hp e
    exact absurd (Heap.lt_size (N p hp).1) (by rw [e]; exact Nat.lt_irrefl _)
  · intro i m₁ nx h hi hJ F₁ N₁ b hb o e
    rw [List.mem_singleton.mp hb] at e ⊢
    rw [Heap.get?_push_of_some _ hol] at e
    exact hsrc i m₁ nx h hi hJ F₁ N₁ o (hol.trans e)
  · intro b hb
    rw [List.mem_singleton.mp hb]
    exact ⟨hlI, ol, Heap.get?_push_of_some _ hol⟩
  · intro i v m₁ nx h tk oI hi hP hJ hoff hst F₁ N₁
    refine turn_rebase (turn i v m₁ nx h tk s.heap.objs.size oI hi (by simpa using hP) hJ rfl hoff ?_ hst.2 F₁ N₁)
    obtain ⟨⟨o, ho, _, hd⟩, _⟩ := hst
    have := (N₁ (s.heap.objs.size, oI) (by simp)).1
    rw [ho] at this
    cases this
    exact ⟨_, hd⟩
  · intro m₁ nx h tk hJ F₁ N₁
    exact done m₁ nx h tk hJ F₁ N₁
end
end Mine
end
section
open PySem PySem.W PySem.Calls PyProof.Rows
namespace Mine
section
variable {prog : Program} {w : World} {A : Around} {s : Shared} {h₀ : Heap} {L : Addr} {m : Str → Option Value} {news : List (Addr × Obj)} {K : Frag} {p : Program} {loose : List Str} {mg mb : Str → Option Value}
  {R : Result → Shared → Prop} {name qual : Str} {params : Arguments} {body : List Stmt} {scope : Scope} {dV kV doc pm cdv ct oc : Value} {an od : Option Addr} {osl : Array (Option Value)} {f : Addr} {args : Args} {binds : List (Str × Value)}

theorem groundM (F : Fr h₀ L s.heap m) (N : News h₀ L s.heap news) :
    Fr h₀ L (hideAll s.heap (news.map (·.1))) m ∧ h₀.StaysIn (hideAll s.heap (news.map (·.1))) ∧
      ∀ v s', LeaveK h₀ L m (hideAll s.heap (news.map (·.1))) R v s' → R (.ok (.ret v)) s' := by
  have nm : ∀ b o, h₀.get? b = some o → b ∉ news.map (·.1) := fun b o e q => by
    obtain ⟨p, hp, rfl⟩ := List.mem_map.mp q
    rw [(N p hp).2.2] at e; cases e
  have st : h₀.StaysIn (hideAll s.heap (news.map (·.1))) := fun b o e => hideAll_get _ (F.keep b o e) (nm b o e)
  obtain ⟨oL, es, ep, hL, hLd, hLk, hLf⟩ := F.ns
  have nL : L ∉ news.map (·.1) := fun q => by
    obtain ⟨p, hp, e⟩ := List.mem_map.mp q
    exact (N p hp).2.1 e
  have hLg := hideAll_get (news.map (·.1)) hL nL
  refine ⟨⟨⟨oL, es, ep, hLg, hLd, hLk, hLf⟩, st, F.above⟩, st, fun v s' hl => ?_⟩
  obtain ⟨L', m', news', F', N', k⟩ := hl
  refine k ⟨⟨oL, es, ep, F'.keep L oL hLg, hLd, hLk, hLf⟩, fun b o e => F'.keep b o (st b o e), F.above⟩ fun p hp => ⟨(N' p hp).1, fun q => ?_, ?_⟩
  · have := (N' p hp).2.2; rw [q, hLg] at this; cases this
  · cases q : h₀.get? p.1 with
    | none => rfl
    | some o => have := (N' p hp).2.2; rw [st _ _ q] at this; cases this

/-- a def entered with the caller's ledger at hand (it may change what stands there) -/
theorem enter_led (F : Fr h₀ L s.heap m) (X₀ : K.In h₀) (N : News h₀ L s.heap news) (T : TopRead p loose mg mb h₀)
    (ho : K.lookup f = some ⟨oc, od, .func (fnOf name qual params body scope dV kV doc pm an cdv ct), osl⟩) (hcd : codeIn K cdv qual = true) (hroom : A.depth < recursionLimit)
    (hbind : BindsTo s (fnOf name qual params body scope dV kV doc pm an cdv ct) args binds) (hloc : ∀ y ∈ binds, scope.names.lookup y.1 = some .local)
    (h : ∀ g L' h₁, Fr h₀ L g m → Fr g L' h₁ (fun y => binds.reverse.lookup y) → News g L' h₁ news → K.In g → TopRead p loose mg mb g → (∀ p ∈ news, p.1 < L') →
      wpAny (model prog w) (A.deeper (envOf qual scope L' f cdv)) (execs body (envOf qual scope L' f cdv))
        (fun fl s' => LeaveK h₀ L m g R (match fl with | .ret v => v | _ => .none) s') F0
        { s with heap := h₁, toks := s.toks + binds.length })
    (hco : scope.isCoroutine = false) (hgen : scope.isGenerator = false) (hk : scope.kind = .function)
    (hcell : ∀ x ∈ scope.names, x.2 ≠ .cell) : codeAny (model prog w) A (.call (.ref f) args) R s := by
  obtain ⟨FG, st, lv⟩ := groundM (R := R) F N
  refine codeAny_call_def (fd := fnOf name qual params body scope dV kV doc pm an cdv ct) (body := body) (binds := binds) hroom ((X₀.keeps F.keep) _ _ ho) rfl (T.nolimit.keeps F.keep) (codeRec_of (X₀.keeps F.keep) hcd) rfl hbind hcell hloc (fun h₁ hns hk₁ => ?_) hco hgen hk
  exact wpAny_mono (h _ s.heap.objs.size h₁ FG ⟨hns, fun b o e => hk₁ b o (of_hideAll _ e), Nat.le_of_eq (hideAll_size _ _)⟩
    (fun p hp => ⟨hk₁ _ _ (N p hp).1, Nat.ne_of_lt (Heap.lt_size (N p hp).1), hideAll_none _ (List.mem_map_of_mem hp)⟩) (X₀.keeps st) (T.keeps st) (fun p hp => Heap.lt_size (N p hp).1)) (fun fl s' hl => lv _ _ hl) fun _ _ e => e.elim

/-- the same, only a part of the ledger handed to the def's changes; the rest stays -/
theorem enter_mut {mu rest : List (Addr × Obj)} (F : Fr h₀ L s.heap m) (X₀ : K.In h₀) (N : News h₀ L s.heap mu) (Nr : News h₀ L s.heap rest) (hap : ∀ p ∈ rest, p.1 ∉ mu.map (·.1)) (T : TopRead p loose mg mb h₀)
    (ho : K.lookup f = some ⟨oc, od, .func (fnOf name qual params body scope dV kV doc pm an cdv ct), osl⟩) (hcd : codeIn K cdv qual = true) (hroom : A.depth < recursionLimit)
    (hbind : BindsTo s (fnOf name qual params body scope dV kV doc pm an cdv ct) args binds) (hloc : ∀ y ∈ binds, scope.names.lookup y.1 = some .local)
    (h : ∀ g L' h₁, Fr h₀ L g m → Fr g L' h₁ (fun y => binds.reverse.lookup y) → News g L' h₁ mu → K.In g → TopRead p loose mg mb g → (∀ p ∈ mu, p.1 < L') → (∀ p ∈ rest, p.1 < L') →
      wpAny (model prog w) (A.deeper (envOf qual scope L' f cdv)) (execs body (envOf qual scope L' f cdv))
        (fun fl s' => LeaveK h₀ L m g (fun r s'' => News h₀ L s''.heap rest → (∀ p ∈ rest, p.1 < L') → R r s'') (match fl with | .ret v => v | _ => .none) s') F0
        { s with heap := h₁, toks := s.toks + binds.length })
    (hco : scope.isCoroutine = false) (hgen : scope.isGenerator = false) (hk : scope.kind = .function)
    (hcell : ∀ x ∈ scope.names, x.2 ≠ .cell) : codeAny (model prog w) A (.call (.ref f) args) R s := by
  obtain ⟨FG, st, lv⟩ := groundM (R := fun r s'' => News h₀ L s''.heap rest → (∀ p ∈ rest, p.1 < s.heap.objs.size) → R r s'') F N
  refine codeAny_call_def (fd := fnOf name qual params body scope dV kV doc pm an cdv ct) (body := body) (binds := binds) hroom ((X₀.keeps F.keep) _ _ ho) rfl (T.nolimit.keeps F.keep) (codeRec_of (X₀.keeps F.keep) hcd) rfl hbind hcell hloc (fun h₁ hns hk₁ => ?_) hco hgen hk
  have hlt : ∀ p ∈ rest, p.1 < s.heap.objs.size := fun p hp => Heap.lt_size (Nr p hp).1
  refine wpAny_mono (h _ s.heap.objs.size h₁ FG ⟨hns, fun b o e => hk₁ b o (of_hideAll _ e), Nat.le_of_eq (hideAll_size _ _)⟩
    (fun p hp => ⟨hk₁ _ _ (N p hp).1, Nat.ne_of_lt (Heap.lt_size (N p hp).1), hideAll_none _ (List.mem_map_of_mem hp)⟩) (X₀.keeps st) (T.keeps st) (fun p hp => Heap.lt_size (N p hp).1) hlt) (fun fl s' hl => ?_) fun _ _ e => e.elim
  have hr : News h₀ L s'.heap rest := by
    obtain ⟨L', m', news', F', N', k⟩ := hl
    exact fun p hp => ⟨F'.keep _ _ (hideAll_get _ (Nr p hp).1 (hap p hp)), (Nr p hp).2⟩
  exact lv _ _ hl hr hlt
end
end Mine
end
section
open PySem PySem.W PySem.Calls PyProof.Rows Mine
set_option Elab.async false
set_option maxRecDepth 100000
set_option maxHeartbeats 4000000
namespace Mine
abbrev pr1 : Program := PySem.Challenge.rw_wn0034_01.row.prog
abbrev TR1 (mg mb : Str → Option Value) (h : Heap) : Prop := TopRead hd1.view_39 (looseW hd1.view_39 []) mg mb h

abbrev entryD (w : World) (a r d q : Value) (t1 t2 t3 t4 : Tok) : Obj := dictOf
  [⟨PyData.keyHash w.params (Str.ofString "useragents"), .str (Str.ofString "useragents") t1, a⟩, ⟨PyData.keyHash w.params (Str.ofString "rulelines"), .str (Str.ofString "rulelines") t2, r⟩,
   ⟨PyData.keyHash w.params (Str.ofString "delay"), .str (Str.ofString "delay") t3, d⟩, ⟨PyData.keyHash w.params (Str.ofString "req_rate"), .str (Str.ofString "req_rate") t4, q⟩] 4

theorem news4 {h₀ h : Heap} {L : Addr} {a b c d : Addr × Obj} {news : List (Addr × Obj)} (N : News h₀ L h [a, b, c, d]) (R : News h₀ L h news) : News h₀ L h (c :: d :: b :: a :: news) := by
  intro p hp
  simp only [List.mem_cons] at hp
  rcases hp with rfl | rfl | rfl | rfl | hp
  · exact N _ (by simp)
  · exact N _ (by simp)
  · exact N _ (by simp)
  · exact N _ (by simp)
  · exact R p hp

theorem entry_new (w : World) : PySem.Challenge.rw_wn0034_01.row.prog = pr1 → ∀ (mg mb : Str → Option Value) (A : Around) (s : Shared) (h₀ : Heap) (L : Addr) (m : Str → Option Value) (news : List (Addr × Obj)) (Q : Value → Shared → Prop),
    A.handled = none → A.depth + 5 < recursionLimit → A.units + 100 < cLine → Fr h₀ L s.heap m → News h₀ L s.heap news → (hd1.heap_39 w.params).In h₀ → TR1 mg mb h₀ →
    (∀ x dx l1 l2 h' tk t1 t2 t3 t4, Fr h₀ L h' m → News h₀ L h' ((x, instObj 59 dx) :: (dx, entryD w (.ref l1) (.ref l2) .none .none t1 t2 t3 t4) :: (l1, W.listOf #[] 0) :: (l2, W.listOf #[] 0) :: news) →
      (∀ p ∈ news, p.1 < dx) → dx < x → x < l1 → l1 < l2 → Q (.ref x) { s with heap := h', toks := tk }) →
    wpAny (model pr1 w) A (call (.ref 59) [] []) Q F0 s := by
  k_fill
  intro _ mg mb A s h₀ L m news Q hh hd hu F N X T h
  k_dflt (refine' call_cls F X N ?k1 ?k2 ?k3 ?_)
  case k1 => k_is
  case k2 => k_is
  case k3 => k_is
  intro x dx h' F' N' hlt hdx
  k_lt2 hdx
  k_dflt (refine' enter_mut (mu := [(x, instObj 59 dx), (dx, dictOf [] 0)]) (rest := news) (binds := [(Str.ofString "self", .ref x)]) F' X (fun p hp => N' p (by simp at hp ⊢; exact hp.imp id .inl)) (fun p hp => N' p (by simp [hp])) ?hap T ?k4 ?k5 ?k6 ?k7 ?k8 ?_ ?c1 ?c2 ?c3 ?c4)
  case hap =>
    intro p hp
    have := hlt p hp
    simp only [List.map_cons, List.map_nil, List.mem_cons, List.not_mem_nil, or_false, not_or]
    have h1 := ltN this
    have h2 := hdx
    exact ⟨neN (by omega), neN (by omega)⟩
  case k4 => k_is
  case k5 => k_is
  case k6 => 
    rw [depth_under_make]; omega
  case k7 => exact BindsTo.of_eq rfl
  case k8 => exact locs rfl
  case c1 => exact rfl
  case c2 => exact rfl
  case c3 => exact rfl
  case c4 => decide
  intro g L' h₁ FG F1 N1 X1 T1 l1 l2
  k_lt l1
  (try dsimp only)
  k_unmd
  k_fold
  k_steps
  rename News h₀ L _ news => hr
  rename Fr h₀ L _ m => kF
  rename News h₀ L _ (_ :: _) => kN
  rename _ ∧ _ ∧ _ => lt2
  obtain ⟨lt2, _, _⟩ := lt2
  rename _ ∧ _ => lt1
  exact h x dx _ _ _ _ _ _ _ _ kF (news4 kN hr) hlt hdx lt1.1 lt2
end Mine
end
section
open PySem PySem.W PySem.Calls PyProof.Rows
set_option maxRecDepth 100000
namespace Mine
theorem b_entry_set_getattribute : entryFor table "set.__getattribute__" = some Builtin.«object.__getattribute__» :=
  entryFor_alias (id' := "object.__getattribute__") (by kernel_rfl) (by decide +kernel) (by decide +kernel) (by kernel_rfl)
theorem b_slot_md_get : Slot "method_descriptor" "__get__" "method_descriptor.__get__" :=
  .of (owner := "method_descriptor") (n := "__get__") (by rw [typeLookup_type, builtinLookup_eq_fast]; kernel_rfl) (by decide +kernel) (by decide +kernel) (by decide +kernel)
    (by first | exact .inl (by decide +kernel) | exact .inr (by decide +kernel)) (by rw [isSubtype_type]; kernel_rfl)
theorem b_entry_md_get : entryFor table "method_descriptor.__get__" = some Builtin.«method_descriptor.__get__» := entryFor_of_tree (by kernel_rfl)
theorem b_args_md_get (a b c : Value) : argsOk "method_descriptor.__get__" ⟨[a, b, c], []⟩ := by unfold argsOk; kernel_rfl
theorem b_set_contains_lookup : typeLookup (.type "set") "__contains__" = pure (some (.builtin "set.__contains__")) := by rw [typeLookup_type, builtinLookup_eq_fast]; kernel_rfl
theorem b_set_getattr_none : typeLookup (.type "set") "__getattr__" = pure none := by rw [typeLookup_type, builtinLookup_eq_fast]; kernel_rfl
theorem b_md_set : typeLookup (.type "method_descriptor") "__set__" = pure none := by rw [typeLookup_type, builtinLookup_eq_fast]; kernel_rfl
theorem b_md_delete : typeLookup (.type "method_descriptor") "__delete__" = pure none := by rw [typeLookup_type, builtinLookup_eq_fast]; kernel_rfl

set_option maxHeartbeats 2000000 in
theorem b_own_set {prog : Program} {w : World} {A : Around} {s : Shared} {a : Addr} {es : Array (Int × Value)} {ep : Nat} {t : SetTable}
    (ho : s.heap.get? a = some { cls := .type "set", dict := none, data := .set es ep t, slots := #[] }) :
    wpAny (model prog w) A (Builtin.ObjectAttr.ownThenClass (Value.ref a) (Str.ofString "__contains__") (some (Value.builtin "set.__contains__")) (some (Value.builtin "method_descriptor.__get__")))
      (fun r s' => r = .bind (Value.builtin "method_descriptor.__get__") (Value.builtin "set.__contains__") ∧ s' = s) F0 s := by
  obtain ⟨hp, g, d, tk, os⟩ := s
  unfold Builtin.ObjectAttr.ownThenClass
  repeat (any_goals (first | assumption | wp_step))
  exact ⟨rfl, rfl⟩

set_option maxHeartbeats 2000000 in
theorem getAttr_set_contains {prog : Program} {w : World} {A : Around} {E : Value → Shared → Prop} {s : Shared} {a : Addr} {es : Array (Int × Value)} {ep : Nat} {t : SetTable} {Q : Value → Shared → Prop}
    (ho : s.heap.get? a = some { cls := .type "set", dict := none, data := .set es ep t, slots := #[] })
    (h : Q (.ref s.heap.objs.size) { s with heap := s.heap.push { cls := .type "builtin_function_or_method", data := .fields #[.builtin "set.__contains__", .ref a] }, toks := s.toks + 1 }) :
    wpAny (model prog w) A (getAttr (.ref a) "__contains__" true) Q E s := by
  obtain ⟨hp, g, d, tk, os⟩ := s
  have hT : ∀ tk', (⟨hp, g, d, tk', os⟩ : Shared).TypeIs (.ref a) "set" := fun _ => ⟨_, ho, rfl⟩
  have f3 := PySem.F.slot_set_getattribute.lookup
  have f4 := PySem.F.slot_set_getattribute.bind (.ref a)
  have f5 := b_set_getattr_none
  unfold getAttr getAttrBy
  repeat (any_goals (first | assumption | exact hT _ | ((with_reducible show wpAny _ _ (call (Value.builtin "set.__getattribute__") _ _) _ _ _); refine wpAny_call_entry PySem.F.slot_set_getattribute (hT _) b_entry_set_getattribute ?_ (PySem.F.args_set_getattribute_2 _ _)) | wp_step))
  dsimp only
  refine wpAny_of_eq b_set_contains_lookup ?_
  have f6 := PySem.F.type_set_contains
  have f7 := b_slot_md_get.lookup
  have f8 := b_md_set
  have f9 := b_md_delete
  have f10 := b_slot_md_get.bind (.builtin "set.__contains__")
  refine wpAny_bind ?_
  show wpAny _ _ (specialOf (.builtin "set.__contains__") "__get__") _ _ _
  refine wpAny_specialOf_val f6 f7 ?_
  refine wpAny_bind ?_
  show wpAny _ _ (do if ← Builtin.ObjectAttr.takesStores (.builtin "set.__contains__") then pure (some (Value.builtin "method_descriptor.__get__", Value.builtin "set.__contains__")) else pure none) _ _ _
  refine wpAny_bind ?_
  unfold Builtin.ObjectAttr.takesStores
  refine wpAny_bind ?_
  refine wpAny_specialOf_val f6 f8 ?_
  show wpAny _ _ (do return (← specialOf (.builtin "set.__contains__") "__delete__").isSome) _ _ _
  refine wpAny_bind ?_
  refine wpAny_specialOf_val f6 f9 ?_
  refine wpAny_pure ?_
  refine wpAny_pure ?_
  dsimp only
  refine wpAny_mono (b_own_set ho) (fun r s' hr => ?_) fun _ _ e => e.elim
  obtain ⟨rfl, rfl⟩ := hr
  dsimp only
  unfold Builtin.ObjectAttr.bindTo
  dsimp only
  refine wpAny_bind (wpAny_holding ?_)
  refine wpAny_call_entry (self := .builtin "set.__contains__") b_slot_md_get ?_ b_entry_md_get ?_ (b_args_md_get _ _ _)
  · exact PySem.F.type_set_contains
  · unfold Builtin.«method_descriptor.__get__»
    have f11 : isSubtype (.type "set") (.type "set") = pure true := sub_set_self
    repeat (any_goals (first | assumption | exact hT _ | wp_step))
    rw [show ".".intercalate ("set.__contains__".cutAt '.').dropLast = "set" from by decide +kernel]
    refine wpAny_of_eq f11 ?_
    simp only [Bool.not_true, Bool.false_eq_true, if_false]
    unfold newFields
    repeat (any_goals (first | assumption | exact hT _ | wp_step))
    exact ⟨_, rfl, wpAny_pure ⟨_, rfl, wpAny_pure h⟩⟩
end Mine
end
section
open PySem PySem.W PySem.Calls PyProof.Rows
set_option maxRecDepth 100000
namespace Mine
section
variable {prog : Program} {w : World} {K : Type} [DecidableEq K] {knd : KeyKind prog w K} {A : Around} {E : Value → Shared → Prop} {s : Shared}
abbrev boundC (S : Addr) : Obj := { cls := .type "builtin_function_or_method", data := .fields #[.builtin "set.__contains__", .ref S] }

theorem b_sub_set_module : isSubtype (.type "set") (.type "module") = pure false := by rw [isSubtype_type]; kernel_rfl
theorem b_kind_contains : builtinKind "set.__contains__" = some .method := by decide +kernel
theorem b_checkArgs (sig : Manifest.Signature) (hs : Manifest.signature? "set.__contains__" = some sig) (a b : Value) : Bind.checkArgs "set.__contains__" { sig with full := s!"{Bind.lastOf "set"}.{Bind.lastOf "set.__contains__"}" } ⟨[a, b], []⟩ = pure () := by
  have e : Manifest.signature? "set.__contains__" = some ⟨.oneArg, "set.__contains__", "__contains__", .self, [⟨"object", .posOnly, true⟩]⟩ := by
    rw [signature?_of (id := "set.__contains__") (n := ['_', '_', 's', 'n', 'i', 'a', 't', 'n', 'o', 'c', '_', '_']) (o := ['t', 'e', 's']) (by kernel_rfl) PySem.F.owner_set]; kernel_rfl
  rw [e] at hs
  cases hs
  kernel_rfl

theorem check_contains {S : Addr} {es : Array (Int × Value)} {ep : Nat} {t : SetTable} {x : Value} {Q : Unit → Shared → Prop} (ho : s.heap.get? S = some { cls := .type "set", dict := none, data := .set es ep t, slots := #[] })
    (h : Q () s) : wpAny (model prog w) A (checkBoundCall "set.__contains__" ⟨[.ref S, x], []⟩) Q E s := by
  have hT : s.TypeIs (.ref S) "set" := ⟨_, ho, rfl⟩
  unfold checkBoundCall
  cases e : Manifest.signature? "set.__contains__" with
  | none => exact wpAny_pure h
  | some sig =>
    simp only [b_kind_contains]
    rw [if_neg (by decide)]
    refine wpAny_bind (wpAny_isInstance hT b_sub_set_module ?_)
    rw [if_neg (by decide +kernel)]
    refine wpAny_bind ?_
    unfold isType loadHead
    refine wpAny_bind (wpAny_loadPart ho ?_)
    refine wpAny_pure ?_
    simp only [Bool.false_eq_true, if_false]
    refine wpAny_bind (wpAny_typeOf hT ?_)
    exact wpAny_of_eq (b_checkArgs sig e _ _) h

theorem call_contains {mw S : Addr} {Sf : K → Bool} {n : Nat} {k : K} {x : Value} {Q : Value → Shared → Prop} (hm : s.heap.get? mw = some (boundC S)) (hkey : knd.is k x = true) (hsc : x.scannable = true)
    (hS : s.heap.SetOf knd S Sf n) (h : Q (.bool (Sf k)) { s with toks := s.toks + 1 }) : wpAny (model prog w) A (call (.ref mw) [x]) Q E s := by
  refine wpAny_call (codeAny_of_tree ?_)
  rw [Around.under_plain rfl rfl]
  show wpAny _ A.in1 (callAny (.ref mw) ⟨[x], []⟩) _ _ s
  unfold callAny
  dsimp only
  refine wpAny_bind (wpAny_load hm ?_)
  dsimp only
  rw [if_pos (by decide)]
  show wpAny _ _ (if (Value.type "builtin_function_or_method" != Value.type "method") = true then do checkBoundCall "set.__contains__" ⟨[.ref S, x], []⟩; again (Code.builtin "set.__contains__" ⟨[.ref S, x], []⟩) else _) _ _ _
  rw [if_pos (by decide)]
  obtain ⟨o, es, ep, t, ho, hex, hd, r⟩ := id hS
  obtain ⟨cls, dict, data, slots⟩ := o
  obtain ⟨h1, h2, h3⟩ := hex
  simp only at h1 h2 h3 hd
  subst h1 h2 h3 hd
  refine wpAny_bind (check_contains ho ?_)
  refine wpAny_pure ⟨plainId_quiet PySem.F.slot_set_contains.plain _, codeAny_builtin entry_set_contains ?_⟩
  rw [Around.under_plainId PySem.F.slot_set_contains.plain]
  unfold Builtin.«frozenset.__contains__» Builtin.Frozenset.oneOther
  simp only [List.isEmpty_nil, bind_assoc]
  unfold Builtin.Frozenset.addrOf Builtin.Frozenset.withSetAsKey setContains
  refine wpAny_bind (wpAny_pure ?_)
  try dsimp only
  refine wpAny_bind (wpAny_pure ?_)
  try dsimp only
  refine wpAny_bind (wpAny_tryCatch ?_)
  refine wpAny_holding ?_
  refine wpAny_bind (knd.pyHash hkey ?_)
  refine wpAny_bind (wpAny_setFind_of (s := { s with toks := s.toks + 1 }) hkey hsc hS fun r hr => ?_)
  refine wpAny_pure ?_
  show wpAny _ _ (ret (Value.bool r.isSome)) _ _ _
  rw [hr]
  exact wpAny_pure h
end
end Mine
end
section
open PySem PySem.W PySem.Calls PyProof.Rows
set_option maxRecDepth 100000
namespace Mine
theorem b_mro_filter : mroOf (.type "filter") = pure [.type "filter", .type "object"] := by rw [mroOf_type]; kernel_rfl
theorem b_lookup_filter_new : typeLookup (.type "filter") "__new__" = pure (some (.builtin "filter.__new__")) := by rw [typeLookup_type, builtinLookup_eq_fast]; kernel_rfl
theorem b_slot_filter_init : Slot "filter" "__init__" "object.__init__" :=
  .of (owner := "object") (n := "__init__") (by rw [typeLookup_type, builtinLookup_eq_fast]; kernel_rfl) (by decide +kernel) (by decide +kernel) (by decide +kernel)
    (by first | exact .inl (by decide +kernel) | exact .inr (by decide +kernel)) (by rw [isSubtype_type]; kernel_rfl)
theorem b_called_filter : TypeCalled "filter" "filter.__new__" "object.__init__" :=
  ⟨by decide +kernel, by decide +kernel, ⟨_, _, b_mro_filter⟩, madeBy_type b_mro_filter b_lookup_filter_new (by decide +kernel), by decide +kernel, by rw [isSubtype_type]; kernel_rfl, b_slot_filter_init⟩
theorem b_typeCall_filter (a b : Value) : checkTypeCall "filter" ⟨[a, b], []⟩ = pure () := by kernel_rfl
theorem b_newCall_filter (a b : Value) : checkBuiltinCall "filter.__new__" ⟨[.type "filter", a, b], []⟩ = pure () := by kernel_rfl
theorem b_entry_filter_new : entryFor table "filter.__new__" = some Builtin.«filter.__new__» := entryFor_of_tree (by kernel_rfl)
theorem b_slot_filter_iter : Slot "filter" "__iter__" "filter.__iter__" :=
  .of (owner := "filter") (n := "__iter__") (by rw [typeLookup_type, builtinLookup_eq_fast]; kernel_rfl) (by decide +kernel) (by decide +kernel) (by decide +kernel)
    (by first | exact .inl (by decide +kernel) | exact .inr (by decide +kernel)) (by rw [isSubtype_type]; kernel_rfl)
theorem b_slot_filter_next : Slot "filter" "__next__" "filter.__next__" :=
  .of (owner := "filter") (n := "__next__") (by rw [typeLookup_type, builtinLookup_eq_fast]; kernel_rfl) (by decide +kernel) (by decide +kernel) (by decide +kernel)
    (by first | exact .inl (by decide +kernel) | exact .inr (by decide +kernel)) (by rw [isSubtype_type]; kernel_rfl)
theorem b_entry_filter_next : entryFor table "filter.__next__" = some Builtin.«filter.__next__» := entryFor_of_tree (by kernel_rfl)
theorem b_entry_filter_iter : entryFor table "filter.__iter__" = some Builtin.«dict_keyiterator.__iter__» :=
  entryFor_alias (id' := "dict_keyiterator.__iter__") (by kernel_rfl) (by first | rfl | decide +kernel) (by decide +kernel) (by kernel_rfl)
theorem b_args_filter_iter (a : Value) : argsOk "filter.__iter__" ⟨[a], []⟩ := by unfold argsOk; kernel_rfl
theorem b_args_filter_next (a : Value) : argsOk "filter.__next__" ⟨[a], []⟩ := by unfold argsOk; kernel_rfl
abbrev filterO (mw I : Addr) : Obj := { cls := .type "filter", data := .fields #[.ref mw, .ref I] }
abbrev listItO (l : Addr) (i : Nat) : Obj := { cls := .type "list_iterator", data := .fields #[.ref l, .int i 0] }

theorem b_filter_new (f : Value) (l : Addr) (items : Array Value) :
    Meets (Builtin.«filter.__new__» ⟨[.type "filter", f, .ref l], []⟩) (fun _ R s => s.heap.IsList l items ∧ R (.ok (.ret (.ref (s.heap.objs.size + 1)))) { s with heap := (s.heap.push (listItO l 0)).push { cls := .type "filter", data := .fields #[f, .ref s.heap.objs.size] } }) :=
  .of_wp fun prog w A R s h => by
    obtain ⟨hp, g, d, tk, os⟩ := s
    obtain ⟨hl, h⟩ := h
    have hsub : isSubtype (.type "filter") (.type "filter") = pure true := b_called_filter.sub
    unfold Builtin.«filter.__new__»
    generalize hPI : pyIter = PI
    wp_walk
    subst hPI
    refine wpAny_pyIter_list hl ?_
    wp_walk
    refine ⟨_, rfl, ?_⟩
    rw [Heap.size_push]
    exact h
section
variable {prog : Program} {w : World} {A : Around} {E : Value → Shared → Prop} {s : Shared}
theorem call_filter {f : Value} {l : Addr} {items : Array Value} {Q : Value → Shared → Prop} (hl : s.heap.IsList l items)
    (h : Q (.ref (s.heap.objs.size + 1)) { s with heap := (s.heap.push (listItO l 0)).push { cls := .type "filter", data := .fields #[f, .ref s.heap.objs.size] } }) :
    wpAny (model prog w) A (call (.type "filter") [f, .ref l]) Q E s :=
  callType_new b_called_filter (by decide) (b_typeCall_filter _ _) (b_newCall_filter _ _) (fun obj => PySem.F.initArgs_range_2 obj _ _) b_entry_filter_new
    (b_filter_new f l items) ⟨hl, ⟨_, by have := Heap.get?_push_size (s.heap.push (listItO l 0)) (o := { cls := .type "filter", data := .fields #[f, .ref s.heap.objs.size] }) rfl; rwa [Heap.size_push] at this, rfl⟩, h⟩

theorem next_list_item {it l : Addr} {i : Nat} {items : Array Value} {x : Value} {Q : Option Value → Shared → Prop} (hit : s.heap.IsListIter it l i)
    (hl : s.heap.IsList l items) (hx : items[i]? = some x)
    (hQ : ∀ h', h'.IsListIter it l (i + 1) → Heap.SameBut it s.heap h' → Q (some x) { s with heap := h' }) :
    wpAny (model prog w) A (callSpecial? (.ref it) "__next__") Q E s := by
  obtain ⟨o, ho, hc, hd⟩ := id hit
  obtain ⟨ol, hol, _, nl, hdl⟩ := hl
  refine wpAny_callSpecial?_slot (name := Str.ofString "__next__") hit.typeIs slot_listiter_next
    (wpAny_call_entry slot_listiter_next hit.typeIs entry_listiter_next ?_ (args_listiter_next _))
  show wpAny _ _ (field (.ref it) 0 >>= _) _ _ s
  refine wpAny_bind (wpAny_field ho hd (x := .ref l) rfl ?_)
  show wpAny _ _ (if (Value.ref l == Value.none) = true then _ else _) _ _ s
  rw [if_neg (show ¬ ((Value.ref l == Value.none) = true) from Bool.false_ne_true)]
  show wpAny _ _ (field (.ref it) 1 >>= _) _ _ s
  refine wpAny_bind (wpAny_field ho hd (x := .int i 0) rfl ?_)
  show wpAny _ _ (seqItems? (.ref l) >>= _) _ _ s
  refine wpAny_bind (wpAny_seqItems hol hdl ?_)
  simp only [Int.toNat_natCast, hx]
  refine wpAny_bind (wpAny_setField ho hd (by simp) (wpAny_pure ⟨x, rfl, hQ _ ?_ (Heap.SameBut.update ..)⟩))
  exact ⟨_, Heap.get?_update_self _ ho (Obj.isFreed_of_fields (Obj.data_mapFields hd _)), (Obj.cls_mapFields ..).trans hc, by
    rw [Obj.data_mapFields hd]; simp [rawInt]⟩

theorem next_list_end {it l : Addr} {i : Nat} {items : Array Value} {Q : Option Value → Shared → Prop} (hh : A.handled = none)
    (hit : s.heap.IsListIter it l i) (hl : s.heap.IsList l items) (hx : items[i]? = none)
    (hE : ∀ h' e, Heap.ExtBut it s.heap h' → Shared.TypeIs { s with heap := h' } (.ref e) "StopIteration" → E (.ref e) { s with heap := h' }) :
    wpAny (model prog w) A (callSpecial? (.ref it) "__next__") Q E s := by
  obtain ⟨o, ho, hc, hd⟩ := id hit
  obtain ⟨ol, hol, _, nl, hdl⟩ := hl
  refine wpAny_callSpecial?_slot (name := Str.ofString "__next__") hit.typeIs slot_listiter_next
    (wpAny_call_entry slot_listiter_next hit.typeIs entry_listiter_next ?_ (args_listiter_next _))
  show wpAny _ _ (field (.ref it) 0 >>= _) _ _ s
  refine wpAny_bind (wpAny_field ho hd (x := .ref l) rfl ?_)
  show wpAny _ _ (if (Value.ref l == Value.none) = true then _ else _) _ _ s
  rw [if_neg (show ¬ ((Value.ref l == Value.none) = true) from Bool.false_ne_true)]
  show wpAny _ _ (field (.ref it) 1 >>= _) _ _ s
  refine wpAny_bind (wpAny_field ho hd (x := .int i 0) rfl ?_)
  show wpAny _ _ (seqItems? (.ref l) >>= _) _ _ s
  refine wpAny_bind (wpAny_seqItems hol hdl ?_)
  simp only [Int.toNat_natCast, hx]
  refine wpAny_bind (wpAny_rule (wpAny_bind (wpAny_setField ho hd (by simp) ?_)))
  show wpAny _ _ (newExc (.type "StopIteration") [] >>= _) _ _ _
  refine wpAny_bind ?_
  simp only [newExc, newTuple]
  refine wpAny_bind (wpAny_newObj_type ?_ (by size_fits))
  refine wpAny_bind (m := firstArgMember _ _) (wpAny_of_eq (a := Value.none) (by first | rfl | (simp only [firstArgMember]; rfl)) ?_)
  refine wpAny_newObj_type ?_ (by size_fits)
  simp only [raiseNew]
  refine wpAny_bind (wpAny_handled ?_)
  rw [show A.in1.handled = none from hh]
  refine wpAny_bind (wpAny_pure (wpAny_throw ?_))
  exact hE _ _ (((Heap.SameBut.update ..).extBut.push _).push _) ⟨_, Heap.get?_push_size _ rfl, rfl⟩
end
end Mine
end
section
open PySem PySem.W PySem.Calls PyProof.Rows
set_option maxRecDepth 100000
namespace Mine

theorem SetOf.keep {prog : Program} {w : World} {K : Type} [DecidableEq K] {knd : KeyKind prog w K} {h h' : Heap} {a : Addr} {S : K → Bool} {n : Nat} (x : h.SetOf knd a S n) (e : ∀ o, h.get? a = some o → h'.get? a = some o) : h'.SetOf knd a S n := by
  obtain ⟨o, es, ep, t, ho, r⟩ := x
  exact ⟨o, es, ep, t, e o ho, r⟩

section
variable {prog : Program} {w : World} {A : Around} {s : Shared}

structure FSt (prog : Program) (w : World) (Fo I l mw S : Addr) (items : Array Value) (Sf : Str → Bool) (n : Nat) (j : Nat) (h : Heap) : Prop where
  fo : h.get? Fo = some (filterO mw I)
  it : h.IsListIter I l j
  ls : h.IsList l items
  bm : h.get? mw = some (boundC S)
  st : h.SetOf (strKind prog w) S Sf n

theorem FSt.keep {Fo I l mw S : Addr} {items : Array Value} {Sf : Str → Bool} {n j : Nat} {h h' : Heap} (x : FSt prog w Fo I l mw S items Sf n j h) (e : ∀ b o, h.get? b = some o → (b = Fo ∨ b = I ∨ b = l ∨ b = mw ∨ b = S) → h'.get? b = some o) :
    FSt prog w Fo I l mw S items Sf n j h' :=
  ⟨e _ _ x.fo (.inl rfl), x.it.at fun o q => e _ o q (.inr (.inl rfl)), x.ls.at fun o q => e _ o q (.inr (.inr (.inl rfl))), e _ _ x.bm (.inr (.inr (.inr (.inl rfl)))), SetOf.keep x.st fun o q => e _ o q (.inr (.inr (.inr (.inr rfl))))⟩

theorem FSt.ne {Fo I l mw S : Addr} {items : Array Value} {Sf : Str → Bool} {n j : Nat} {h : Heap} (x : FSt prog w Fo I l mw S items Sf n j h) : Fo ≠ I ∧ l ≠ I ∧ mw ≠ I ∧ S ≠ I := by
  obtain ⟨oi, hoi, hci, hdi⟩ := x.it
  refine ⟨fun e => ?_, fun e => ?_, fun e => ?_, fun e => ?_⟩
  · have := x.fo; rw [e, hoi] at this; cases this; simp at hci
  · obtain ⟨ol, hol, hcl, _⟩ := x.ls
    rw [e, hoi] at hol; cases hol; rw [hci] at hcl; simp at hcl
  · have := x.bm; rw [e, hoi] at this; cases this; simp at hci
  · obtain ⟨o, es, ep, t, ho, hex, _⟩ := x.st
    rw [e, hoi] at ho; cases ho; rw [hex.1] at hci; simp at hci

def keepS (Sf : Str → Bool) : Value → Bool
  | .str x _ => Sf x
  | _ => false

theorem code_filter_next {R : Result → Shared → Prop} {Fo I l mw S : Addr} {items : Array Value} {Sf : Str → Bool} {n : Nat} (hh : A.handled = none) (hs : ∀ (j : Nat) v, items[j]? = some v → ∃ x t, v = .str x t) :
    ∀ (k j : Nat) (s : Shared), items.size - j = k → FSt prog w Fo I l mw S items Sf n j s.heap →
    (∀ j' v h' tk, j ≤ j' → items[j']? = some v → keepS Sf v = true → (∀ i u, j ≤ i → i < j' → items[i]? = some u → keepS Sf u = false) → FSt prog w Fo I l mw S items Sf n (j' + 1) h' → (∀ b o, b ≠ I → s.heap.get? b = some o → h'.get? b = some o) →
      R (.ok (.ret v)) { s with heap := h', toks := tk }) →
    ((∀ i u, j ≤ i → items[i]? = some u → keepS Sf u = false) → ∀ h' tk e, (∀ b o, b ≠ I → s.heap.get? b = some o → h'.get? b = some o) → Shared.TypeIs { s with heap := h', toks := tk } (.ref e) "StopIteration" → R (.error (.ref e)) { s with heap := h', toks := tk }) →
    codeAny (model prog w) A (.builtin "filter.__next__" ⟨[.ref Fo], []⟩) R s := by
  intro k
  induction k with
  | zero =>
    intro j s hk hst _ hend
    refine codeAny_builtin b_entry_filter_next ?_
    rw [Around.under_plainId b_slot_filter_next.plain]
    show wpAny _ _ (field (.ref Fo) 0 >>= _) _ _ s
    refine wpAny_bind (wpAny_field hst.fo rfl (x := .ref mw) rfl ?_)
    show wpAny _ _ (field (.ref Fo) 1 >>= _) _ _ s
    refine wpAny_bind (wpAny_field hst.fo rfl (x := .ref I) rfl ?_)
    have hx : items[j]? = none := by simp; omega
    refine wpAny_bind (next_list_end hh hst.it hst.ls hx fun h' e hext hT => ?_)
    refine hend (fun i u hi hu => ?_) h' s.toks e (fun b o hb hbo => hext b o hb hbo) hT
    have : i < items.size := (Array.getElem?_eq_some_iff.mp hu).1
    omega
  | succ k ih =>
    intro j s hk hst hfound hend
    have hlt : j < items.size := by omega
    refine codeAny_builtin b_entry_filter_next ?_
    rw [Around.under_plainId b_slot_filter_next.plain]
    show wpAny _ _ (field (.ref Fo) 0 >>= _) _ _ s
    refine wpAny_bind (wpAny_field hst.fo rfl (x := .ref mw) rfl ?_)
    show wpAny _ _ (field (.ref Fo) 1 >>= _) _ _ s
    refine wpAny_bind (wpAny_field hst.fo rfl (x := .ref I) rfl ?_)
    have hx : items[j]? = some items[j] := by simp [hlt]
    refine wpAny_bind (next_list_item hst.it hst.ls hx fun h' hit' hs' => ?_)
    obtain ⟨n1, n2, n3, n4⟩ := hst.ne
    have hst' : FSt prog w Fo I l mw S items Sf n (j + 1) h' :=
      ⟨(hs'.2 _ n1).trans hst.fo, hit', hst.ls.at fun o q => (hs'.2 _ n2).trans q, (hs'.2 _ n3).trans hst.bm, SetOf.keep hst.st fun o q => (hs'.2 _ n4).trans q⟩
    obtain ⟨x, t, hv⟩ := hs j _ hx
    rw [hv] at hx ⊢
    dsimp only
    refine wpAny_bind (wpAny_holding ?_)
    show wpAny _ _ (if (Value.ref mw == Value.none || Value.ref mw == Value.type "bool") = true then _ else _) _ _ _
    rw [if_neg (by simp)]
    refine wpAny_bind (call_contains (knd := strKind prog w) (s := { s with heap := h' }) hst'.bm (strKind_is prog w x t) rfl hst'.st ?_)
    refine wpAny_holding (wpAny_truthy_bool ?_)
    cases hb : Sf x with
    | true =>
      rw [if_pos rfl]
      refine wpAny_pure ?_
      exact hfound j (.str x t) h' _ (Nat.le_refl _) hx hb (fun i u h1 h2 => by omega) hst' fun b o hb' e => (hs'.2 b hb').trans e
    | false =>
      rw [if_neg (by simp)]
      refine wpAny_pure ⟨plainId_quiet b_slot_filter_next.plain _, ?_⟩
      refine ih (j + 1) { s with heap := h', toks := s.toks + 1 } (by omega) hst' ?_ ?_
      · intro j' v h'' tk hj' hv' hkp hno hst'' hk''
        refine hfound j' v h'' tk (by omega) hv' hkp (fun i u h1 h2 hu => ?_) hst'' fun b o hb' e => hk'' b o hb' ((hs'.2 b hb').trans e)
        by_cases hij : i = j
        · subst hij; rw [hx] at hu; cases hu; exact hb
        · exact hno i u (by omega) h2 hu
      · intro hno h'' tk e hk'' hT
        refine hend (fun i u h1 hu => ?_) h'' tk e (fun b o hb' q => hk'' b o hb' ((hs'.2 b hb').trans q)) hT
        by_cases hij : i = j
        · subst hij; rw [hx] at hu; cases hu; exact hb
        · exact hno i u (by omega) hu
end
end Mine
namespace Mine
section
variable {prog : Program} {w : World} {A : Around} {s : Shared}

theorem call_slot_code {T : String} {name : Str} {id : String} {self : Value} {Q E : Value → Shared → Prop} (slot : Slot T name id) (hT : s.TypeIs self T) (hok : argsOk id ⟨[self], []⟩)
    (h : codeAny (model prog w) A (.builtin id ⟨[self], []⟩) (fun r s' => match r with | .ok (.ret v) => Q v s' | .ok _ => False | .error e => E e s') s) :
    wpAny (model prog w) A (call (.builtin id) [self]) Q E s := by
  refine wpAny_call (codeAny_of_tree ?_)
  rw [Around.under_plain rfl rfl]
  show wpAny _ A.in1 (callAny (.builtin id) ⟨[self], []⟩) _ _ s
  unfold callAny
  dsimp only
  refine wpAny_bind (slot.check _ _ _ _ _ _ _ _ hT hok ?_)
  exact wpAny_pure ⟨plainId_quiet slot.plain _, h⟩

theorem filter_take_stay {α : Type} (p : α → Bool) (L : List α) (j j' : Nat) (hj : j ≤ j') (h : ∀ i u, j ≤ i → i < j' → L[i]? = some u → p u = false) : (L.take j').filter p = (L.take j).filter p := by
  have e : L.take j' = L.take j ++ (L.drop j).take (j' - j) := by
    rw [← List.take_add]; congr 1; omega
  rw [e, List.filter_append]
  have : ((L.drop j).take (j' - j)).filter p = [] := by
    rw [List.filter_eq_nil_iff]
    intro u hu
    obtain ⟨i, hi⟩ := List.mem_iff_getElem?.mp hu
    rw [List.getElem?_take] at hi
    split at hi
    · rw [List.getElem?_drop] at hi
      have := h (j + i) u (by omega) (by omega) hi
      simp [this]
    · cases hi
  rw [this, List.append_nil]

theorem filter_walks {Fo I l mw S : Addr} {items : Array Value} {Sf : Str → Bool} {n : Nat} (hh : A.handled = none) (hs : ∀ (j : Nat) v, items[j]? = some v → ∃ x t, v = .str x t) :
    Walks prog w A Fo [Fo, I, l, mw, S] [I] (items.toList.filter (keepS Sf)).length (fun i v => (items.toList.filter (keepS Sf))[i]? = some v)
      (fun i h => ∃ j, j ≤ items.size ∧ FSt prog w Fo I l mw S items Sf n j h ∧ ((items.toList.take j).filter (keepS Sf)).length = i) where
  sub := fun b hb => by simp at hb; simp [hb]
  frame := fun i h h' st hk => by
    obtain ⟨j, hj, hf, e⟩ := st
    exact ⟨j, hj, hf.keep fun b o hb hm => hk b (by simpa using hm) o hb, e⟩
  item := fun i s Q E hi st hQ => by
    obtain ⟨j, hj, hf, e⟩ := st
    have hT : s.TypeIs (.ref Fo) "filter" := ⟨_, hf.fo, rfl⟩
    unfold pyNext
    refine wpAny_bind (wpAny_attempt (wpAny_callSpecial?_slot (name := Str.ofString "__next__") hT b_slot_filter_next
      (call_slot_code b_slot_filter_next hT (b_args_filter_next _) (code_filter_next hh hs _ j s rfl hf ?_ ?_))))
    · intro j' v h' tk hjj hv hkp hno hf' hk'
      refine wpAny_pure (hQ v h' tk ?_ ⟨j' + 1, ?_, hf', ?_⟩ fun b o hb e => hk' b o (by simpa using hb) e)
      · have hsplit : items.toList.filter (keepS Sf) = (items.toList.take j').filter (keepS Sf) ++ (items.toList.drop j').filter (keepS Sf) := by
          rw [← List.filter_append, List.take_append_drop]
        have h1 := filter_take_stay (keepS Sf) items.toList j j' hjj (fun i u a b c => hno i u a b (by simpa using c))
        have hlt : j' < items.toList.length := by simpa using (Array.getElem?_eq_some_iff.mp hv).1
        have hv' : items.toList[j'] = v := by
          have := (Array.getElem?_eq_some_iff.mp hv).2
          simpa using this
        show (items.toList.filter (keepS Sf))[i]? = some v
        rw [hsplit, h1, List.getElem?_append_right (by omega), e, Nat.sub_self, List.drop_eq_getElem_cons hlt, hv', List.filter_cons_of_pos hkp]
        rfl
      · exact (Array.getElem?_eq_some_iff.mp hv).1
      · have h1 := filter_take_stay (keepS Sf) items.toList j j' hjj (fun i u a b c => hno i u a b (by simpa using c))
        have hv' : items.toList[j']? = some v := by simpa using hv
        rw [List.take_add_one, hv', List.filter_append, h1, List.length_append, e]
        simp [hkp]
    · intro hno
      exfalso
      have h1 := filter_take_stay (keepS Sf) items.toList j items.toList.length (by simpa using hj) (fun i u a _ c => hno i u a (by simpa using c))
      rw [List.take_length] at h1
      rw [h1] at hi
      omega
  done := fun s Q E st hQ => by
    obtain ⟨j, hj, hf, e⟩ := st
    have hT : s.TypeIs (.ref Fo) "filter" := ⟨_, hf.fo, rfl⟩
    unfold pyNext
    refine wpAny_bind (wpAny_attempt (wpAny_callSpecial?_slot (name := Str.ofString "__next__") hT b_slot_filter_next
      (call_slot_code b_slot_filter_next hT (b_args_filter_next _) (code_filter_next hh hs _ j s rfl hf ?_ ?_))))
    · intro j' v h' tk hjj hv hkp hno hf' hk'
      exfalso
      have h1 := filter_take_stay (keepS Sf) items.toList j j' hjj (fun i u a b c => hno i u a b (by simpa using c))
      have hv' : items.toList[j']? = some v := by simpa using hv
      have h2 : ((items.toList.take (j' + 1)).filter (keepS Sf)).length = ((items.toList.take j).filter (keepS Sf)).length + 1 := by
        rw [List.take_add_one, hv', List.filter_append, h1, List.length_append]
        simp [hkp]
      have h3 : ((items.toList.take (j' + 1)).filter (keepS Sf)).length ≤ (items.toList.filter (keepS Sf)).length :=
        ((List.take_sublist _ _).filter _).length_le
      omega
    · intro hno h' tk ex hk' hTe
      refine wpAny_bind (wpAny_isInstance (T := "StopIteration") (b := true) hTe isSubtype_stop ?_)
      exact wpAny_pure (hQ h' tk fun b o hb q => hk' b o (by simpa using hb) q)
  self := fun i s Q E st hQ => by
    obtain ⟨j, hj, hf, e⟩ := st
    have hT : s.TypeIs (.ref Fo) "filter" := ⟨_, hf.fo, rfl⟩
    refine wpAny_pyIter_slot hT b_slot_filter_iter (wpAny_call_entry b_slot_filter_iter hT b_entry_filter_iter ?_ (b_args_filter_iter _))
    show wpAny _ _ (ret (.ref Fo)) _ _ s
    exact wpAny_pure ⟨_, rfl, "filter", _, hT, b_slot_filter_next.lookup, hQ⟩
end
end Mine
end
section
open PySem PySem.W PySem.Calls PyProof.Rows
set_option maxRecDepth 100000
namespace Mine
theorem b_filter_len : typeLookup (.type "filter") "__len__" = pure none := by rw [typeLookup_type, builtinLookup_eq_fast]; kernel_rfl
theorem b_filter_hint : typeLookup (.type "filter") "__length_hint__" = pure none := by rw [typeLookup_type, builtinLookup_eq_fast]; kernel_rfl
section
variable {prog : Program} {w : World} {A : Around} {E : Value → Shared → Prop} {s : Shared}

theorem hint_filter {Fo : Addr} {o : Obj} {Q : Bool → Shared → Prop} (hf : s.heap.get? Fo = some o) (hc : o.cls = .type "filter") (h : Q true s) : wpAny (model prog w) A (Builtin.List.listLengthHint (.ref Fo)) Q E s := by
  have hT : s.TypeIs (.ref Fo) "filter" := ⟨o, hf, hc⟩
  unfold Builtin.List.listLengthHint
  refine wpAny_bind (wpAny_specialOf hT b_filter_len ?_)
  dsimp only
  refine wpAny_ite_split (fun hab => absurd hab (show ¬ (false = true) from Bool.false_ne_true)) (fun _ => ?_)
  refine wpAny_ite_split (fun hab => absurd hab (by decide)) (fun _ => ?_)
  refine wpAny_bind (wpAny_specialOf hT b_filter_hint ?_)
  exact wpAny_pure h

theorem extend_filter {R : Result → Shared → Prop} {Fo I l mw S : Addr} {items : Array Value} {Sf : Str → Bool} {n : Nat} (hh : A.handled = none) (hs : ∀ (j : Nat) v, items[j]? = some v → ∃ x t, v = .str x t)
    (hf : FSt prog w Fo I l mw S items Sf n 0 s.heap) (hsz : items.size ≤ 2 ^ 20) (D : Addr) (res : Value) (c₀ : Nat) (hD : s.heap.get? D = some { cls := .type "list", data := .seq #[] c₀ }) (hDl : D ≠ l)
    (hR : ∀ h' tk c', (∀ b o, b ≠ D → b ≠ I → s.heap.get? b = some o → h'.get? b = some o) → h'.get? D = some { cls := .type "list", dict := none, data := .seq (items.toList.filter (keepS Sf)).toArray c', slots := #[] } →
      R (.ok (.ret res)) { s with heap := h', toks := tk }) :
    wpAny (model prog w) A.in1 (Builtin.List.listExtendWith (.ref D) (.ref Fo) res)
      (fun fin s' => match fin with | .done f => R (.ok f) s' | .again c' => c'.quiet = true ∧ codeAny (model prog w) A c' R s') (fun e s' => R (.error e) s') s := by
  have hDF : D ≠ Fo := fun e => by have := hf.fo; rw [← e, hD] at this; simp at this
  have hDm : D ≠ mw := fun e => by have := hf.bm; rw [← e, hD] at this; simp at this
  have hDS : D ≠ S := fun e => by
    obtain ⟨o, es, ep, t, ho, hex, hd, _⟩ := hf.st
    rw [← e, hD] at ho; cases ho; simp at hd
  have hDI : D ≠ I := fun e => by
    obtain ⟨o, ho, _, hd⟩ := hf.it
    rw [← e, hD] at ho; cases ho; simp at hd
  have hDf : D ∉ [Fo, I, l, mw, S] := by simp [hDF, hDI, hDl, hDm, hDS]
  have hk : ((items.toList.filter (keepS Sf)).length) ≤ sizeLine := by
    have := List.length_filter_le (keepS Sf) items.toList
    have e : items.toList.length = items.size := by simp
    rw [sizeLine_eq]; omega
  have W := (filter_walks (prog := prog) (w := w) (A := A.in1) (Fo := Fo) (I := I) (l := l) (mw := mw) (S := S) (items := items) (Sf := Sf) (n := n) hh hs).toS
  have key : ∀ (h : Heap) (c₁ tk : Nat), FSt prog w Fo I l mw S items Sf n 0 h → (∀ b o, b ≠ D → s.heap.get? b = some o → h.get? b = some o) →
      h.get? D = some { cls := .type "list", data := .seq #[] c₁ } → codeAny (model prog w) A (.builtin "list.extend.loop" ⟨[.ref D, .ref Fo, res], []⟩) R { s with heap := h, toks := tk } := by
    intro h c₁ tk hf' hk' hD₁
    refine codeAny_extend_loopS W hk D hDf res _ 0 _ #[] c₁ rfl (Nat.zero_le _) ⟨0, Nat.zero_le _, hf', by simp⟩ hD₁ (ItemsOf.nil _) fun s' acc' c' hm hD' hacc => ?_
    rw [Moved.eq_with hm]
    have hacc' : acc' = (items.toList.filter (keepS Sf)).toArray := by
      apply Array.ext'
      rw [List.toList_toArray]
      apply List.ext_getElem?
      intro i
      rw [Array.getElem?_toList]
      cases hi : acc'[i]? with
      | none =>
        have h1 : acc'.size ≤ i := by simpa using hi
        rw [hacc.1] at h1
        exact (List.getElem?_eq_none h1).symm
      | some v => exact (hacc.2 i v hi).symm
    refine hR s'.heap s'.toks c' (fun b o hb hbI e => hm.heap b o (by simp [hb, hbI]) (hk' b o hb e)) (hacc' ▸ hD')
  unfold Builtin.List.listExtendWith
  refine wpAny_bind (wpAny_typeOf (T := "filter") ⟨_, hf.fo, rfl⟩ ?_)
  have h1 : Builtin.List.listSameRef (.ref D) (.ref Fo) = false := by simp [Builtin.List.listSameRef, hDF]
  have h2 : (Value.type "filter" == Value.type "list") = false := by decide
  have h3 : (Value.type "filter" == Value.type "tuple") = false := by decide
  simp only [h1, h2, h3, Bool.or_false, Bool.false_eq_true, if_false]
  have W1 := filter_walks (prog := prog) (w := w) (A := A.in1) (Fo := Fo) (I := I) (l := l) (mw := mw) (S := S) (items := items) (Sf := Sf) (n := n) hh hs
  refine wpAny_bind (W1.self 0 _ _ _ ⟨0, Nat.zero_le _, hf, by simp⟩ ?_)
  refine wpAny_bind (wpAny_holding (hint_filter hf.fo rfl ?_))
  refine wpAny_ite_split (fun _ => ?_) (fun hab => absurd rfl hab)
  refine wpAny_bind (wpAny_rule ?_)
  refine wpAny_bind ?_
  show wpAny _ _ (updateSeq D (·.push .none) >>= fun _ => updateSeq D (·.pop)) _ _ _
  refine wpAny_bind (wpAny_updateSeq hD rfl ?_)
  have hD₂ := Heap.get?_update_self (Obj.mapSeq (·.push Value.none)) hD rfl
  refine wpAny_updateSeq (hz := by seq_fits) hD₂ rfl ?_
  have hD₃ := Heap.get?_update_self (Obj.mapSeq (·.pop)) hD₂ rfl
  refine wpAny_pure ⟨plainId_quiet PySem.F.plain_extend_loop _, key _ _ _ (hf.keep fun b o e hm => ?_) (fun b o hb e => ?_) hD₃⟩
  · have hb : b ≠ D := by rintro rfl; exact absurd hm (by simp [hDF, hDI, hDl, hDm, hDS])
    exact (Heap.get?_update_other _ _ (Ne.symm hb)).trans ((Heap.get?_update_other _ _ (Ne.symm hb)).trans e)
  · exact (Heap.get?_update_other _ _ (Ne.symm hb)).trans ((Heap.get?_update_other _ _ (Ne.symm hb)).trans e)

theorem init_filter {R : Result → Shared → Prop} {Fo I l mw S : Addr} {items : Array Value} {Sf : Str → Bool} {n : Nat} (hh : A.handled = none) (hs : ∀ (j : Nat) v, items[j]? = some v → ∃ x t, v = .str x t)
    (hf : FSt prog w Fo I l mw S items Sf n 0 s.heap) (hsz : items.size ≤ 2 ^ 20) (D : Addr) (hD : s.heap.get? D = some { cls := .type "list", data := .seq #[] }) (hDl : D ≠ l)
    (hR : ∀ h' tk c', (∀ b o, b ≠ D → b ≠ I → s.heap.get? b = some o → h'.get? b = some o) → h'.get? D = some { cls := .type "list", dict := none, data := .seq (items.toList.filter (keepS Sf)).toArray c', slots := #[] } →
      R (.ok (.ret .none)) { s with heap := h', toks := tk }) :
    wpAny (model prog w) A.in1 (Builtin.«list.__init__» ⟨[.ref D, .ref Fo], []⟩)
      (fun fin s' => match fin with | .done f => R (.ok f) s' | .again c' => c'.quiet = true ∧ codeAny (model prog w) A c' R s') (fun e s' => R (.error e) s') s := by
  have hDF : D ≠ Fo := fun e => by have := hf.fo; rw [← e, hD] at this; simp at this
  have hDm : D ≠ mw := fun e => by have := hf.bm; rw [← e, hD] at this; simp at this
  have hDS : D ≠ S := fun e => by
    obtain ⟨o, es, ep, t, ho, hex, hd, _⟩ := hf.st
    rw [← e, hD] at ho; cases ho; simp at hd
  have hDI : D ≠ I := fun e => by
    obtain ⟨o, ho, _, hd⟩ := hf.it
    rw [← e, hD] at ho; cases ho; simp at hd
  show wpAny _ _ (do let old ← Builtin.List.listItems (.ref D); Builtin.List.listUpdate (.ref D) (fun _ => #[]); letGo old.toList.reverse; Builtin.List.listExtendWith (.ref D) (.ref Fo) .none) _ _ s
  refine wpAny_bind ?_
  unfold Builtin.List.listItems
  refine wpAny_bind (wpAny_seqItems hD rfl (wpAny_pure ?_))
  show wpAny _ _ (updateSeq D (fun _ => #[]) >>= fun _ => letGo (#[] : Array Value).toList.reverse >>= fun _ => Builtin.List.listExtendWith (.ref D) (.ref Fo) .none) _ _ s
  refine wpAny_bind (wpAny_updateSeq hD rfl ?_)
  have hD₂ := Heap.get?_update_self (Obj.mapSeq (fun _ => (#[] : Array Value))) hD rfl
  have oth : ∀ b o, b ≠ D → s.heap.get? b = some o → (s.heap.update D (Obj.mapSeq (fun _ => (#[] : Array Value)))).get? b = some o :=
    fun b o hb e => (Heap.get?_update_other _ _ (Ne.symm hb)).trans e
  refine wpAny_bind (wpAny_letGo ?_)
  refine extend_filter hh hs (hf.keep fun b o e hm => oth b o ?_ e) hsz D .none _ hD₂ hDl fun h' tk c' hk hD' => ?_
  · rintro rfl; exact absurd hm (by simp [hDF, hDI, hDl, hDm, hDS])
  · exact hR h' tk c' (fun b o hb hbI e => hk b o hb hbI (oth b o hb e)) hD'

theorem call_list_filter {Q : Value → Shared → Prop} {Fo I l mw S : Addr} {items : Array Value} {Sf : Str → Bool} {n : Nat} (hh : A.handled = none) (hs : ∀ (j : Nat) v, items[j]? = some v → ∃ x t, v = .str x t)
    (hf : FSt prog w Fo I l mw S items Sf n 0 s.heap) (hsz : items.size ≤ 2 ^ 20)
    (hQ : ∀ h' tk c', (∀ b o, b ≠ I → s.heap.get? b = some o → h'.get? b = some o) →
      h'.get? s.heap.objs.size = some { cls := .type "list", dict := none, data := .seq (items.toList.filter (keepS Sf)).toArray c', slots := #[] } → Q (.ref s.heap.objs.size) { s with heap := h', toks := tk }) :
    wpAny (model prog w) A (call (.type "list") [.ref Fo]) Q E s := by
  refine callType_codes (Q₁ := fun obj s₁ => obj = .ref s.heap.objs.size ∧ s₁ = { s with heap := s.heap.push { cls := .type "list", data := .seq #[] } }) PySem.F.called_list (PySem.F.typeCall_list_1 _) PySem.F.entry_list_init
    (code_list_new _ ⟨rfl, rfl⟩) fun obj s₁ h₁ => ?_
  obtain ⟨rfl, rfl⟩ := h₁
  have hD : (s.heap.push { cls := .type "list", data := .seq #[] }).get? s.heap.objs.size = some { cls := .type "list", data := .seq #[] } := Heap.get?_push_size _ rfl
  have hl : s.heap.objs.size ≠ l := by
    obtain ⟨o, ho, _⟩ := hf.ls
    exact Nat.ne_of_gt (Heap.lt_size ho)
  refine ⟨⟨_, hD, rfl⟩, PySem.F.args_list_init_2 _ _, init_filter (A := A.in1) hh hs (hf.keep fun b o e _ => Heap.get?_push_of_some _ e) hsz _ hD hl fun h' tk c' hk hD' => ?_⟩
  exact ⟨rfl, hQ h' tk c' (fun b o hb e => hk b o (Nat.ne_of_lt (Heap.lt_size e)) hb (Heap.get?_push_of_some _ e)) hD'⟩
end
end Mine
end
section
open PySem PySem.W PySem.Calls PyProof.Rows
set_option maxRecDepth 100000
namespace Mine
section
variable {prog : Program} {w : World} {A : Around} {E : Value → Shared → Prop} {s : Shared}

/-- what a set of the texts taken so far holds -/
def Seen (prog : Program) (w : World) (xs : List Str) (i : Nat) (S : Addr) (h : Heap) : Prop := ∃ n, n ≤ i ∧ h.SetOf (strKind prog w) S (fun k => decide (k ∈ xs.take i)) n

theorem code_set_update {R : Result → Shared → Prop} {I l S : Addr} {items : Array Value} {xs : List Str} (W : Walks prog w A.in1 I [I, l] [I] items.size (fun i v => items[i]? = some v) (fun i h => h.IsListIter I l i ∧ h.IsList l items))
    (hSI : S ≠ I) (hSl : S ≠ l) (hx : ∀ (i : Nat) v, items[i]? = some v → ∃ x t, v = .str x t ∧ xs[i]? = some x) (hb : items.size + 1 < scanBound) :
    ∀ (k i : Nat) (s : Shared), items.size - i = k → i ≤ items.size → (s.heap.IsListIter I l i ∧ s.heap.IsList l items) → Seen prog w xs i S s.heap →
      (∀ h' tk, Seen prog w xs items.size S h' → (∀ b o, b ≠ S → b ≠ I → s.heap.get? b = some o → h'.get? b = some o) → R (.ok (.ret .none)) { s with heap := h', toks := tk }) →
      codeAny (model prog w) A (.builtin "set.update.loop" ⟨[.ref S, .ref I], []⟩) R s := by
  intro k
  induction k with
  | zero =>
    intro i s hk hi hst hS hR
    have hin : i = items.size := by omega
    subst hin
    refine codeAny_builtin PyProof.Rows.F.entry_set_update_loop ?_
    rw [Around.under_plainId PyProof.Rows.F.plain_set_update_loop _]
    show wpAny _ A.in1 (pyNext (.ref I) >>= _) _ _ s
    refine wpAny_bind (W.done s _ _ hst fun h' tk hk' => ?_)
    show wpAny _ A.in1 (ret Value.none) _ _ _
    obtain ⟨n, hn, hS⟩ := hS
    exact wpAny_pure (hR h' tk ⟨n, hn, SetOf.keep hS fun o e => hk' S o (by simpa using hSI) e⟩ fun b o _ hb e => hk' b o (by simpa using hb) e)
  | succ k ih =>
    intro i s hk hi hst hS hR
    have hlt : i < items.size := by omega
    refine codeAny_builtin PyProof.Rows.F.entry_set_update_loop ?_
    rw [Around.under_plainId PyProof.Rows.F.plain_set_update_loop _]
    show wpAny _ A.in1 (pyNext (.ref I) >>= _) _ _ s
    refine wpAny_bind (W.item i s _ _ hlt hst fun v h₁ tk₁ hP hst₁ hk₁ => ?_)
    obtain ⟨x, t, rfl, hxi⟩ := hx i v hP
    obtain ⟨n, hn, hS⟩ := hS
    have hS₁ := SetOf.keep hS fun o e => hk₁ S o (by simpa using hSI) e
    show wpAny _ A.in1 (holding [Value.str x t] (setAdd S (.str x t)) >>= _) _ _ _
    refine wpAny_bind (wpAny_holding ?_)
    unfold setAdd
    refine wpAny_holding ?_
    refine wpAny_bind ((strKind prog w).pyHash (k := x) (strKind_is _ _ _ _) ?_)
    refine wpAny_setAddHashed_of (knd := strKind prog w) (s := { s with heap := h₁, toks := tk₁ + 1 }) (strKind_is _ _ _ _) rfl hS₁ (by omega) fun h₂ hs₂ hS₂ => ?_
    have htake : xs.take (i + 1) = xs.take i ++ [x] := by rw [List.take_add_one, hxi]; rfl
    refine wpAny_pure ⟨plainId_quiet PyProof.Rows.F.plain_set_update_loop _, ih (i + 1) _ (by omega) hlt ?_ ⟨_, ?_, PyProof.Rows.SetOf_congr hS₂ (S' := fun k => decide (k ∈ xs.take (i + 1))) (fun k' => ?_) rfl⟩ fun h' tk' hS' hk' => ?_⟩
    · exact ⟨hst₁.1.at fun o e => (hs₂.2 I (Ne.symm hSI)).trans e, hst₁.2.at fun o e => (hs₂.2 l (Ne.symm hSl)).trans e⟩
    · split <;> omega
    · rw [htake]; simp
    · exact hR h' tk' hS' fun b o hb hbI e => hk' b o hb hbI ((hs₂.2 b hb).trans (hk₁ b o (by simpa using hbI) e))

set_option maxHeartbeats 3200000 in
theorem call_set_strs {l : Addr} {items : Array Value} {xs : List Str} {Q : Value → Shared → Prop}
    (hh : A.handled = none) (hl : s.heap.IsList l items) (hx : ∀ (i : Nat) v, items[i]? = some v → ∃ x t, v = .str x t ∧ xs[i]? = some x) (hxl : xs.length = items.size) (hb : items.size + 1 < scanBound)
    (h : ∀ (h' : Heap) (tk n : Nat), h'.SetOf (strKind prog w) s.heap.objs.size (fun k => decide (k ∈ xs)) n → Ext s.heap h' → Q (.ref s.heap.objs.size) { s with heap := h', toks := tk }) :
    wpAny (model prog w) A (call (.type "set") [.ref l]) Q E s := by
  obtain ⟨c, tl, hmro⟩ := PySem.F.called_set.mro
  have hmade := PySem.F.called_set.made
  have hsub := PySem.F.called_set.sub
  refine wpAny_call (codeAny_of_tree ?_)
  show wpAny _ _ (callAny (.type "set") _) _ _ _
  refine wpAny_pure ⟨Code.quiet_builtin _ (by decide +kernel), codeAny_builtin PySem.F.entry_type_call ?_⟩
  rw [Around.under_plain (weight_type_call_type "set" [.ref l] []) rfl]
  have h1 := PySem.F.called_set.notType
  have h2 := PySem.F.called_set.canCreate
  have hct := PySem.F.typeCall_set_1 (.ref l)
  repeat (any_goals (first | assumption | wp_step))
  refine codeAny_mono (code_set_new_1 (.ref l) (E := E) (Q₁ := fun obj s₁ => ∃ led : Bool, obj = .ref s.heap.objs.size ∧ s₁ = { s with heap := s.heap.push { cls := .type "set", dict := none, data := .set #[] 0 (.fresh 0 0 led) } }) fun led => ⟨led, rfl, rfl⟩) fun r s₁ hr => ?_
  cases r with
  | error e => exact hr
  | ok fl =>
    cases fl with
    | ret obj =>
      obtain ⟨led, rfl, rfl⟩ := hr
      have hS : (s.heap.push { cls := .type "set", dict := none, data := .set #[] 0 (.fresh 0 0 led) }).get? s.heap.objs.size = some { cls := .type "set", dict := none, data := .set #[] 0 (.fresh 0 0 led) } := Heap.get?_push_size _ rfl
      have hT : Shared.TypeIs { s with heap := s.heap.push { cls := .type "set", dict := none, data := .set #[] 0 (.fresh 0 0 led) } } (.ref s.heap.objs.size) "set" := ⟨_, hS, rfl⟩
      have hli := PySem.F.called_set.init.lookup
      have hbi := PySem.F.called_set.init.bind (.ref s.heap.objs.size)
      repeat (any_goals (first | assumption | wp_step))
      refine codeAny_mono (codeAny_call_builtin (R := wants (fun r s₂ => r = .none ∧ ∃ h' tk, s₂ = { s with heap := h', toks := tk } ∧ Seen prog w xs items.size s.heap.objs.size h' ∧ Ext s.heap h') E) PySem.F.called_set.init.plain PySem.F.entry_set_init (check_set_init_1 hT ?_)) fun r₂ s₂ hr₂ => ?_
      · obtain ⟨ol, hol, hcl, nl, hdl⟩ := hl
        obtain ⟨ocls, odict, odata, oslots⟩ := ol
        simp only at hcl hdl
        subst hcl; subst hdl
        have hol' : (s.heap.push { cls := .type "set", dict := none, data := .set #[] 0 (.fresh 0 0 led) }).get? l = some { cls := .type "list", dict := odict, data := .seq items nl, slots := oslots } := Heap.get?_push_of_some _ hol
        have hsls := PySem.F.sub_list_set
        have hslf := PySem.F.sub_list_frozenset
        have hne : (Value.type "list" == Value.type "dict") = false := by decide
        have hl1 : (s.heap.push { cls := .type "set", dict := none, data := .set #[] 0 (.fresh 0 0 led) }).IsList l items := ⟨_, hol', rfl, nl, rfl⟩
        unfold Builtin.«set.__init__» noKeywords Builtin.Frozenset.updateFrom
        generalize hPI : pyIter = PI
        wp_walk
        subst hPI
        refine wpAny_pyIter_list hl1 ?_
        refine wpAny_bind (wpAny_runValue ?_)
        have hlS : l < s.heap.objs.size := Heap.lt_size hol
        have hh3 : A.in1.in1.in1.handled = none := by simp [hh]
        have hneI : l ≠ (s.heap.push { cls := .type "set", dict := none, data := .set #[] 0 (.fresh 0 0 led) }).objs.size := by
          rw [Heap.size_push]; exact Nat.ne_of_lt (Nat.lt_succ_of_lt hlS)
        have hSI : s.heap.objs.size ≠ (s.heap.push { cls := .type "set", dict := none, data := .set #[] 0 (.fresh 0 0 led) }).objs.size := by
          rw [Heap.size_push]; exact Nat.ne_of_lt (Nat.lt_succ_self _)
        refine code_set_update (xs := xs) (Walks.list hh3 _ l hneI items) hSI (Nat.ne_of_gt hlS) hx hb (items.size - 0) 0 _ (by omega) (Nat.zero_le _)
          ⟨⟨_, Heap.get?_push_size _ rfl, rfl, rfl⟩, (hl1.push _)⟩ ?hS0 ?hR
        case hS0 =>
          have hget : ((s.heap.push { cls := .type "set", dict := none, data := .set #[] 0 (.fresh 0 0 led) }).push { cls := .type "list_iterator", data := .fields #[.ref l, .int 0 0] }).get? s.heap.objs.size
              = some { cls := .type "set", dict := none, data := .set #[] 0 (.fresh 0 0 led) } := Heap.get?_push_of_some _ hS
          exact ⟨0, Nat.le_refl _, PyProof.Rows.SetOf_congr ((PyProof.Rows.setObjOf_fresh (knd := strKind prog w) led).setOf hget (by unfold scanBound; omega)) (fun _ => by simp) rfl⟩
        case hR =>
          intro h' tk hS' hk'
          show wpAny _ _ _ _ _ _
          refine wpAny_pure ?_
          show wpAny _ _ (ret Value.none) _ _ _
          refine wpAny_pure ⟨rfl, h', tk, rfl, hS', fun b o e => ?_⟩
          have hb : b < s.heap.objs.size := Heap.lt_size e
          exact hk' b o (Nat.ne_of_lt hb) (by rw [Heap.size_push]; exact Nat.ne_of_lt (Nat.lt_succ_of_lt hb)) (Heap.get?_push_of_some _ (Heap.get?_push_of_some _ e))
      · cases r₂ with
        | error e => exact hr₂
        | ok fl₂ =>
          cases fl₂ with
          | ret r =>
            obtain ⟨rfl, h', tk, rfl, ⟨n, _, hS'⟩, hk'⟩ := hr₂
            repeat (any_goals (first | assumption | wp_step))
            rw [← hxl, List.take_length] at hS'
            exact h _ _ n hS' hk'
          | _ => exact hr₂.elim
    | _ => exact hr.elim
end
end Mine
end
section
open PySem PySem.W PySem.Calls PyProof.Rows
set_option maxRecDepth 100000
namespace Mine
theorem listO_is {h : Heap} {l : Addr} {its : Array Value} {n : Nat} (e : h.get? l = some (W.listOf its n)) : h.IsList l its := ⟨_, e, rfl, n, rfl⟩

section
variable {prog : Program} {w : World} {A : Around} {E : Value → Shared → Prop} {s : Shared}
theorem set_K {l : Addr} {vs : List Value} {xs : List Str} {Q : Value → Shared → Prop} (hh : A.handled = none) (hl : s.heap.IsList l vs.toArray) (hx : StrsAre vs xs) (hb : vs.length + 1 < scanBound)
    (h : ∀ (h' : Heap) (tk : Nat) (S : Addr) (n : Nat), Ext s.heap h' → h'.SetOf (PySem.strKind prog w) S (fun k => decide (k ∈ xs)) n → Q (.ref S) { s with heap := h', toks := tk }) :
    wpAny (model prog w) A (call (.type "set") [.ref l]) Q E s :=
  call_set_strs hh hl (by simpa using hx.item) (by simpa using hx.length.symm) (by simpa using hb) fun h' tk n hS hk => h h' tk _ n hk hS

theorem contains_K {S : Addr} {Sf : Str → Bool} {n : Nat} {Q : Value → Shared → Prop} (hS : s.heap.SetOf (PySem.strKind prog w) S Sf n)
    (h : ∀ (h' : Heap) (tk : Nat) (mw : Addr), Ext s.heap h' → h'.get? mw = some (boundC S) → Q (.ref mw) { s with heap := h', toks := tk }) :
    wpAny (model prog w) A (getAttr (.ref S) "__contains__" true) Q E s := by
  obtain ⟨o, es, ep, t, ho, hex, hd, _⟩ := id hS
  obtain ⟨cls, dict, data, slots⟩ := o
  obtain ⟨q1, q2, q3⟩ := hex
  simp only at q1 q2 q3 hd
  subst q1 q2 q3 hd
  exact getAttr_set_contains ho (h _ _ _ (fun b o e => Heap.get?_push_of_some _ e) (Heap.get?_push_size _ rfl))

theorem filter_K {l mw S : Addr} {vs : List Value} {Sf : Str → Bool} {n : Nat} {Q : Value → Shared → Prop} (hl : s.heap.IsList l vs.toArray) (hm : s.heap.get? mw = some (boundC S)) (hS : s.heap.SetOf (PySem.strKind prog w) S Sf n)
    (h : ∀ (h' : Heap) (tk : Nat) (Fo I : Addr), Ext s.heap h' → s.heap.get? I = none → FSt prog w Fo I l mw S vs.toArray Sf n 0 h' → Q (.ref Fo) { s with heap := h', toks := tk }) :
    wpAny (model prog w) A (call (.type "filter") [.ref mw, .ref l]) Q E s := by
  refine call_filter hl ?_
  have e1 : Ext s.heap ((s.heap.push (listItO l 0)).push { cls := .type "filter", data := .fields #[.ref mw, .ref s.heap.objs.size] }) := fun b o e => Heap.get?_push_of_some _ (Heap.get?_push_of_some _ e)
  refine h _ _ _ s.heap.objs.size e1 ?_ ⟨?_, ?_, hl.at fun o e => e1 _ o e, e1 _ _ hm, SetOf.keep hS fun o e => e1 _ o e⟩
  · cases e : s.heap.get? s.heap.objs.size with
    | none => rfl
    | some o => exact absurd (Heap.lt_size e) (Nat.lt_irrefl _)
  · have := Heap.get?_push_size (s.heap.push (listItO l 0)) (o := { cls := .type "filter", data := .fields #[.ref mw, .ref s.heap.objs.size] }) rfl
    rwa [Heap.size_push] at this
  · exact ⟨_, Heap.get?_push_of_some _ (Heap.get?_push_size _ rfl), rfl, rfl⟩

theorem list_filter_K {Fo I l mw S : Addr} {vs : List Value} {xs : List Str} {Sf : Str → Bool} {n : Nat} {Q : Value → Shared → Prop} {hg : Heap} (hh : A.handled = none) (hx : StrsAre vs xs) (hb : vs.length ≤ 2 ^ 20)
    (hf : FSt prog w Fo I l mw S vs.toArray Sf n 0 s.heap) (hg1 : Ext hg s.heap) (hgI : hg.get? I = none)
    (h : ∀ (h' : Heap) (tk : Nat) (D : Addr) (c : Nat), Ext hg h' → h'.get? D = some (W.listOf (vs.filter (keepS Sf)).toArray c) → (∀ b o, hg.get? b = some o → b < D) → hg.get? D = none → Q (.ref D) { s with heap := h', toks := tk }) :
    wpAny (model prog w) A (call (.type "list") [.ref Fo]) Q E s := by
  refine call_list_filter hh (fun j v hv => ?_) hf (by simpa using hb) fun h' tk c' hk hD => ?_
  · obtain ⟨x, t, e, _⟩ := hx.item j v (by simpa using hv)
    exact ⟨x, t, e⟩
  · refine h h' tk _ c' (fun b o e => hk b o (fun q => by rw [q, hgI] at e; cases e) (hg1 b o e)) (by simpa using hD) (fun b o e => Heap.lt_size (hg1 b o e)) ?_
    cases e : hg.get? s.heap.objs.size with
    | none => rfl
    | some o => exact absurd (Heap.lt_size (hg1 _ _ e)) (Nat.lt_irrefl _)
end

section
variable {prog : Program} {w : World} {A : Around} {E : Value → Shared → Prop} {s : Shared} {h₀ : Heap} {L : Addr} {m : Str → Option Value} {news : List (Addr × Obj)}
theorem add_K {l b : Addr} {vs ws : List Value} {Q : Value → Shared → Prop} (F : Fr h₀ L s.heap m) (N : News h₀ L s.heap news) (hl : s.heap.IsList l vs.toArray) (hb : s.heap.IsList b ws.toArray) (hsz : vs.length + ws.length ≤ 2 ^ 21)
    (h : ∀ (D : Addr) h', Fr h₀ L h' m → News h₀ L h' ((D, W.listOf (vs ++ ws).toArray 0) :: news) → (∀ p ∈ news, p.1 < D) → Q (.ref D) { s with heap := h' }) :
    wpAny (model prog w) A (binaryOp .Add (.ref l) (.ref b)) Q E s :=
  add_lists F N hl hb (fun h' F' N' => h _ h' F' N' fun p hp => Heap.lt_size (N p hp).1) (hsz := by rw [sizeLine_eq]; omega)
end

/-- an object of the heap laid on the ledger -/
theorem news_add {h₀ hg h : Heap} {L D : Addr} {m : Str → Option Value} {news : List (Addr × Obj)} {o : Obj} (F : Fr h₀ L hg m) (N : News h₀ L h news) (e : h.get? D = some o) (hD : hg.get? D = none) : News h₀ L h ((D, o) :: news) := by
  intro p hp
  rcases List.mem_cons.mp hp with rfl | hp
  · refine ⟨e, fun q => ?_, ?_⟩
    · obtain ⟨oL, _, _, hL, _⟩ := F.ns
      rw [show D = L from q, hL] at hD; cases hD
    · cases q : h₀.get? D with
      | none => rfl
      | some o' => rw [F.keep _ _ q] at hD; cases hD
  · exact N p hp
end Mine
end
section
open PySem PySem.W PySem.Calls PyProof.Rows
set_option maxRecDepth 100000
namespace Mine
section
variable {prog : Program} {w : World} {A : Around} {E : Value → Shared → Prop} {s : Shared} {h₀ : Heap} {L : Addr} {m : Str → Option Value} {news : List (Addr × Obj)}
theorem item_any {value slice : PySem.Expr} {l : Addr} {vs : List Value} {k : Int} {u : Tok} {Q : Value → Shared → Prop} (hl : s.heap.IsList l vs.toArray) (h0 : 0 ≤ k) (h1 : k < (vs.length : Int)) (hfit : vs.length < 2 ^ 62)
    (h : ∀ v, vs[k.toNat]? = some v → Q v s)
    (hs : subscripted slice false (.ref l) (.int k u) = operate [.ref l, .int k u] (getItem (.ref l) (.int k u)) := by with_unfolding_all rfl) :
    wpAny (model prog w) A (subscriptTail value slice (.ref l) (.int k u)) Q E s := by
  have hj : k.toNat < vs.length := by omega
  have e : vs[k.toNat]? = some vs[k.toNat] := List.getElem?_eq_getElem hj
  exact tail_any hl.typeIs slot_list_getitem.lookup (wpAny_getItem_list hl h0 (by omega) (by simpa using e) (h _ e)) hs
theorem item_strs {value slice : PySem.Expr} {l : Addr} {vs : List Value} {xs : List Str} {k : Int} {u : Tok} {Q : Value → Shared → Prop} (hl : s.heap.IsList l vs.toArray) (hx : StrsAre vs xs) (h0 : 0 ≤ k) (h1 : k < (xs.length : Int)) (hfit : xs.length < 2 ^ 62)
    (h : ∀ x t, xs[k.toNat]? = some x → Q (.str x t) s)
    (hs : subscripted slice false (.ref l) (.int k u) = operate [.ref l, .int k u] (getItem (.ref l) (.int k u)) := by with_unfolding_all rfl) :
    wpAny (model prog w) A (subscriptTail value slice (.ref l) (.int k u)) Q E s := by
  have hlen := hx.length
  refine item_any hl h0 (by omega) (by omega) (fun v hv => ?_) hs
  obtain ⟨x, t, rfl, e⟩ := hx.item _ _ hv
  exact h x t e
theorem item_ints {value slice : PySem.Expr} {l : Addr} {vs : List Value} {ns : List Int} {k : Int} {u : Tok} {Q : Value → Shared → Prop} (hl : s.heap.IsList l vs.toArray) (hx : IntsAre vs ns) (h0 : 0 ≤ k) (h1 : k < (ns.length : Int)) (hfit : ns.length < 2 ^ 62)
    (h : ∀ x t, ns[k.toNat]? = some x → Q (.int x t) s)
    (hs : subscripted slice false (.ref l) (.int k u) = operate [.ref l, .int k u] (getItem (.ref l) (.int k u)) := by with_unfolding_all rfl) :
    wpAny (model prog w) A (subscriptTail value slice (.ref l) (.int k u)) Q E s := by
  have hlen := hx.length
  refine item_any hl h0 (by omega) (by omega) (fun v hv => ?_) hs
  obtain ⟨x, t, rfl, e⟩ := hx.at _ _ hv
  exact h x t e
end
end Mine
end
section
open PySem PySem.W PySem.Calls PyProof.Rows
set_option maxRecDepth 100000
namespace Mine
theorem off0 {D : Addr} : ∀ p ∈ ([] : List (Addr × Obj)), p.1 ≠ D := fun _ h => nomatch h
theorem off1 {D : Addr} {q : Addr × Obj} {r : List (Addr × Obj)} (h : q.1 ≠ D) (hr : ∀ p ∈ r, p.1 ≠ D) : ∀ p ∈ q :: r, p.1 ≠ D := fun p hp => by
  rcases List.mem_cons.mp hp with rfl | hp
  · exact h
  · exact hr p hp
section
variable {prog : Program} {w : World} {A : Around} {E : Value → Shared → Prop} {s : Shared} {h₀ : Heap} {L : Addr} {m : Str → Option Value}
theorem extend_K {pre post : List (Addr × Obj)} {D b : Addr} {vs ws : List Value} {n n2 : Nat} {Q : Value → Shared → Prop} (F : Fr h₀ L s.heap m) (N : News h₀ L s.heap (pre ++ (D, W.listOf vs.toArray n) :: post)) (a : ∀ p ∈ pre, p.1 ≠ D) (c : ∀ p ∈ post, p.1 ≠ D)
    (hb : s.heap.get? b = some (W.listOf ws.toArray n2)) (hsz : vs.length + ws.length ≤ 2 ^ 21)
    (h : ∀ n' h', Fr h₀ L h' m → News h₀ L h' (pre ++ (D, W.listOf (vs ++ ws).toArray n') :: post) → Q .none { s with heap := h' }) : wpAny (model prog w) A (call (.builtin "list.extend") [.ref D, .ref b]) Q E s := by
  have z := N (D, W.listOf vs.toArray n) (List.mem_append.mpr (.inr (.head _)))
  have q := PySem.IsL.update z.1 (fun x => x ++ ws.toArray)
  have ea : vs.toArray ++ ws.toArray = (vs ++ ws).toArray := by simp
  simp only [ea] at q
  have z2 := h _ _ (F.change (Heap.SameBut.update ..) z.2.1 z.2.2) (news_set N a c (Heap.SameBut.update ..) q)
  refine call_meets PySem.F.slot_list_extend ⟨_, z.1, rfl⟩ PySem.F.entry_list_extend (PySem.F.args_list_extend_2 _ _) (PySem.AutoSeq1.list_extend_list_list_0 D vs.toArray n b ws.toArray n2 ?_ ?_ ?_) ⟨z.1, hb, z2⟩
  · intro q
    rw [Bool.and_eq_true] at q
    have := q.2
    unfold Builtin.List.listTooLong at this
    rw [sizeLine_eq, decide_eq_true_eq, List.size_toArray, List.size_toArray] at this
    omega
  · rw [sizeLine_eq, List.size_toArray]; omega
  · rw [sizeLine_eq, List.size_toArray, List.size_toArray]; omega
theorem item_last {value slice : PySem.Expr} {l : Addr} {vs : List Value} {ns : List Int} {k : Int} {u : Tok} {Q : Value → Shared → Prop} (hl : s.heap.IsList l vs.toArray) (hx : IntsAre vs ns) (hk : k = -1) (h0 : 0 < ns.length)
    (h : ∀ t, Q (.int (ns.getD (ns.length - 1) 0) t) s)
    (hs : subscripted slice false (.ref l) (.int k u) = operate [.ref l, .int k u] (getItem (.ref l) (.int k u)) := by with_unfolding_all rfl) :
    wpAny (model prog w) A (subscriptTail value slice (.ref l) (.int k u)) Q E s := by
  subst hk
  have hlen := hx.length
  obtain ⟨t, hv⟩ := hx.get (ns.length - 1) _ (show ns[ns.length - 1]? = some (ns.getD (ns.length - 1) 0) by
    rw [List.getD_eq_getElem?_getD, List.getElem?_eq_getElem (by omega)]; rfl)
  refine tail_any hl.typeIs slot_list_getitem.lookup (wpAny_getItem_list_neg hl (by decide) (by rw [List.size_toArray]; omega) (by decide) ?_ (h t)) hs
  rw [List.size_toArray, List.getElem?_toArray, ← hv]
  congr 1
  omega
end
end Mine
end
section
open PySem PySem.W PySem.Calls PyProof.Rows
set_option maxRecDepth 100000
namespace Mine
abbrev lstO (ys : List Value) : Obj := LCg.lst ys

/-- the end of a comprehension's turn -/
structure CTurn (h₀ : Heap) (L : Addr) (m : Str → Option Value) (J : List (Addr × Obj) → Prop) (own : List (Addr × Obj)) (ad : List Addr) (s s' : Shared) : Prop where
  out : ∃ h' tk nx news', s' = { s with heap := h', toks := tk } ∧ Fr h₀ L h' m ∧ News h₀ L h' news' ∧ (∀ p ∈ nx, p ∈ news') ∧ (∀ p ∈ own, p ∈ news') ∧ (∀ p ∈ nx, p.1 ∉ ad) ∧ J nx

theorem CTurn.intro {h₀ : Heap} {L : Addr} {m : Str → Option Value} {J : List (Addr × Obj) → Prop} {own : List (Addr × Obj)} {ad : List Addr} {s : Shared} {h' : Heap} {tk : Nat} (nx news' : List (Addr × Obj))
    (F : Fr h₀ L h' m) (N : News h₀ L h' news') (h1 : ∀ p ∈ nx, p ∈ news') (h2 : ∀ p ∈ own, p ∈ news') (h3 : ∀ p ∈ nx, p.1 ∉ ad) (hj : J nx) : CTurn h₀ L m J own ad s { s with heap := h', toks := tk } :=
  ⟨h', tk, nx, news', rfl, F, N, h1, h2, h3, hj⟩
theorem CTurn.n0 {h₀ : Heap} {L : Addr} {m : Str → Option Value} {J : List (Addr × Obj) → Prop} {own : List (Addr × Obj)} {ad : List Addr} {s : Shared} {h' : Heap} {tk : Nat} {news' : List (Addr × Obj)}
    (F : Fr h₀ L h' m) (N : News h₀ L h' news') (h2 : ∀ p ∈ own, p ∈ news') (hj : J []) : CTurn h₀ L m J own ad s { s with heap := h', toks := tk } :=
  .intro [] news' F N (fun _ h => (nomatch h)) h2 (fun _ h => (nomatch h)) hj

/-- what the tests of a clause bring -/
def TestsP (M : Model) (A : Around) (ifs : List Expr) (cenv : Env) (T : Bool → Shared → Prop) (s : Shared) : Prop :=
  match ifs with
  | [] => T true s
  | [c] => wpAny M A (isTrue c cenv (eval c cenv)) T F0 s
  | _ => False

theorem CTurn.rebase {h₀ : Heap} {L : Addr} {m : Str → Option Value} {J : List (Addr × Obj) → Prop} {own : List (Addr × Obj)} {ad : List Addr} {s s' : Shared} {h : Heap} {tk : Nat} (x : CTurn h₀ L m J own ad s s') : CTurn h₀ L m J own ad { s with heap := h, toks := tk } s' := by
  obtain ⟨h', tk', nx, news', rfl, r⟩ := x
  exact ⟨h', tk', nx, news', rfl, r⟩
theorem TestsP.mono {M : Model} {A : Around} {ifs : List Expr} {cenv : Env} {T T' : Bool → Shared → Prop} {s : Shared} (h : TestsP M A ifs cenv T s) (k : ∀ b s', T b s' → T' b s') : TestsP M A ifs cenv T' s := by
  match ifs, h with
  | [], h => exact k _ _ h
  | [c], h => exact wpAny_mono h k fun _ _ e => e
theorem tests_rebase {M : Model} {A : Around} {ifs : List Expr} {cenv : Env} {elt : Expr} {h₀ : Heap} {L : Addr} {m : Str → Option Value} {J₁ : Value → List (Addr × Obj) → Prop} {J₂ : List (Addr × Obj) → Prop} {own : List (Addr × Obj)} {ad : List Addr} {s s₁ : Shared} {h : Heap} {tk : Nat}
    (x : TestsP M A ifs cenv (fun b s₂ => if b = true then wpAny M A (eval elt cenv) (fun y s₃ => CTurn h₀ L m (J₁ y) own ad s s₃) F0 s₂ else CTurn h₀ L m J₂ own ad s s₂) s₁) :
    TestsP M A ifs cenv (fun b s₂ => if b = true then wpAny M A (eval elt cenv) (fun y s₃ => CTurn h₀ L m (J₁ y) own ad { s with heap := h, toks := tk } s₃) F0 s₂ else CTurn h₀ L m J₂ own ad { s with heap := h, toks := tk } s₂) s₁ :=
  x.mono fun b s' hb => by
    cases b with
    | false => simp only [Bool.false_eq_true, if_false] at hb ⊢; exact hb.rebase
    | true => simp only [if_true] at hb ⊢; exact wpAny_mono hb (fun _ _ z => z.rebase) fun _ _ e => e

theorem TestsP.run {prog : Program} {w : World} {A : Around} {ifs : List Expr} {cenv : Env} {T : Bool → Shared → Prop} {E : Value → Shared → Prop} {s : Shared} (h : TestsP (model prog w) A ifs cenv T s) :
    wpAny (model prog w) A (forIn ifs true fun c r => if r = true then do let ok ← isTrue c cenv (eval c cenv); pure (ForInStep.yield ok) else pure (ForInStep.yield r)) T E s := by
  match ifs, h with
  | [], h => exact wpAny_tests_nil h
  | [c], h => exact wpAny_tests_one (wpAny_mono h (fun _ _ x => x) fun _ _ e => e.elim)

/-- what stands at the block's own places when its variable holds a value -/
structure OwnOf (M : Model) (A : Around) (cenv : Env) (target : Expr) (ca : List Addr) (Own : List (Addr × Obj) → Option Value → Prop) : Prop where
  at_ : ∀ own v, Own own v → own.map (·.1) = ca
  asg : ∀ (s : Shared) v u own (E : Value → Shared → Prop) (Q : Unit → Shared → Prop), Own own u → (∀ p ∈ own, s.heap.get? p.1 = some p.2) →
    (∀ h' tk own', Own own' (some v) → (∀ p ∈ own', h'.get? p.1 = some p.2) → (∀ b o, b ∉ ca → s.heap.get? b = some o → h'.get? b = some o) → Q () { s with heap := h', toks := tk }) → wpAny M A (assign target cenv v) Q E s

theorem news_off {h₀ h h' : Heap} {L : Addr} {news : List (Addr × Obj)} {ad : List Addr} (N : News h₀ L h news) (hk : ∀ b o, b ∉ ad → h.get? b = some o → h'.get? b = some o) (off : ∀ p ∈ news, p.1 ∉ ad) : News h₀ L h' news :=
  fun p hp => ⟨hk _ _ (off p hp) (N p hp).1, (N p hp).2⟩
theorem fr_off {h₀ h h' : Heap} {L : Addr} {m : Str → Option Value} {ad : List Addr} (F : Fr h₀ L h m) (hk : ∀ b o, b ∉ ad → h.get? b = some o → h'.get? b = some o) (hL : L ∉ ad) (h0 : ∀ a ∈ ad, h₀.get? a = none) : Fr h₀ L h' m :=
  ⟨F.ns.at' fun o e => hk L o hL e, fun b o e => hk b o (fun hm => by rw [h0 b hm] at e; cases e) (F.keep b o e), F.above⟩

section
variable {prog : Program} {w : World} {A : Around} {s : Shared} {h₀ : Heap} {L : Addr} {m : Str → Option Value}

theorem loop_J {elt iter target : Expr} {ifs : List Expr} {scope : Scope} {pos : Pos} {cenv : Env} {I D : Addr} {ca fp : List Addr} {Own : List (Addr × Obj) → Option Value → Prop} {n : Nat} {P : Nat → Value → Prop} {St : Nat → Heap → Prop} {R : Result → Shared → Prop} {own nx old : List (Addr × Obj)} {u : Option Value}
    (W : Walks prog w A I fp [I] n P St) (J : Nat → List Value → List (Addr × Obj) → Prop) (O : OwnOf (model prog w) A cenv target ca Own) (hsz : n ≤ sizeLine)
    (hIo : ∀ i h, St i h → ∃ o, h.get? I = some o)
    (hSt : ∀ i h h' o ys nx, i ≤ n → St i h → h.get? I = some o → h'.get? I = some o → Fr h₀ L h' m → News h₀ L h' (nx ++ old) → J i ys nx → St i h')
    (hca : ∀ a ∈ ca, a ≠ L ∧ h₀.get? a = none ∧ a ≠ I ∧ a ≠ D ∧ a ∉ fp) (hI : I ≠ L ∧ h₀.get? I = none ∧ I ≠ D) (hD : D ≠ L ∧ h₀.get? D = none ∧ D ∉ fp)
    (hst : St 0 s.heap) (F : Fr h₀ L s.heap m) (N : News h₀ L s.heap (own ++ (D, lstO []) :: (nx ++ old))) (hO : Own own u) (hoff : ∀ p ∈ nx ++ old, p.1 ∉ I :: D :: ca) (hj : J 0 [] nx)
    (turn : ∀ i v oI own ys nx h tk, i < n → P i v → J i ys nx → Own own (some v) → Fr h₀ L h m → News h₀ L h ((I, oI) :: (own ++ (D, lstO ys) :: (nx ++ old))) → (∀ p ∈ nx ++ old, p.1 ∉ I :: D :: ca) →
      TestsP (model prog w) A ifs cenv (fun b s₂ => if b = true then wpAny (model prog w) A (eval elt cenv) (fun y s₃ => CTurn h₀ L m (J (i + 1) (ys ++ [y])) ((I, oI) :: (own ++ (D, lstO ys) :: old)) (I :: D :: ca) s s₃) F0 s₂
        else CTurn h₀ L m (J (i + 1) ys) ((I, oI) :: (own ++ (D, lstO ys) :: old)) (I :: D :: ca) s s₂) { s with heap := h, toks := tk })
    (done : ∀ h tk ys own nx u, J n ys nx → Own own u → Fr h₀ L h m → News h₀ L h (own ++ (D, lstO ys) :: (nx ++ old)) → (∀ p ∈ nx ++ old, p.1 ∉ I :: D :: ca) → R (.ok .next) { s with heap := h, toks := tk })
    (ht : ∀ v, letOwnedTupleGo target (.ref I) v = pure () := by intro _; rfl) :
    codeAny (model prog w) A (.compLoop (.ListComp elt [⟨target, iter, ifs, 0⟩] scope pos) 0 (.ref I) (.ref D) cenv) R s := by
  refine codeAny_compLoop_tests (ht := ht)
    (fun k s' => ∃ h tk i ys own nx u, s' = { s with heap := h, toks := tk } ∧ i ≤ n ∧ k = n + 1 - i ∧ ys.length ≤ i ∧ St i h ∧ Fr h₀ L h m ∧ Own own u ∧ News h₀ L h (own ++ (D, lstO ys) :: (nx ++ old)) ∧ (∀ p ∈ nx ++ old, p.1 ∉ I :: D :: ca) ∧ J i ys nx)
    ?_ (n + 1) ⟨s.heap, s.toks, 0, [], own, nx, u, rfl, Nat.zero_le _, rfl, Nat.le_refl _, hst, F, hO, N, hoff, hj⟩
  rintro k s' ⟨h, tk, i, ys, own, nx, u, rfl, hi, rfl, hyl, hst, F, hO, N, hoff, hj⟩
  have ownI : ∀ {own : List (Addr × Obj)} {u}, Own own u → ∀ p ∈ own, p.1 ∈ ca := fun hO p hp => O.at_ _ _ hO ▸ List.mem_map_of_mem hp
  have offI : ∀ p ∈ own ++ (D, lstO ys) :: (nx ++ old), p.1 ∉ [I] := by
    intro p hp e
    rw [List.mem_singleton] at e
    rcases List.mem_append.mp hp with hp | hp
    · exact (hca _ (ownI hO p hp)).2.2.1 e
    · rcases List.mem_cons.mp hp with rfl | hp
      · exact hI.2.2 e.symm
      · exact hoff p hp (e ▸ .head _)
  by_cases hlt : i < n
  · refine W.item i _ _ _ hlt hst fun v h₂ tk₂ hPv hst₂ hk₂ => ?_
    have F₂ := fr_off F hk₂ (by simpa using hI.1.symm) (by simpa using hI.2.1)
    have N₂ := news_off N hk₂ offI
    refine O.asg _ v u own _ _ hO (fun p hp => (N₂ p (List.mem_append_left _ hp)).1) fun h₃ tk₃ own₃ hO₃ ho₃ hk₃ => ?_
    have F₃ : Fr h₀ L h₃ m := fr_off F₂ hk₃ (fun q => (hca _ q).1 rfl) fun a ha => (hca a ha).2.1
    have hst₃ : St (i + 1) h₃ := W.frame _ _ _ hst₂ fun b hb o e => hk₃ b o (fun q => (hca b q).2.2.2.2 hb) e
    obtain ⟨oI, heI⟩ := hIo _ _ hst₃
    have N₃ : News h₀ L h₃ ((I, oI) :: (own₃ ++ (D, lstO ys) :: (nx ++ old))) := by
      intro p hp
      rcases List.mem_cons.mp hp with rfl | hp
      · exact ⟨heI, hI.1, hI.2.1⟩
      · rcases List.mem_append.mp hp with hp | hp
        · have := hca _ (ownI hO₃ p hp)
          exact ⟨ho₃ p hp, this.1, this.2.1⟩
        · have z := N₂ p (List.mem_append_right _ hp)
          refine ⟨hk₃ _ _ (fun q => ?_) z.1, z.2⟩
          rcases List.mem_cons.mp hp with rfl | hp
          · exact (hca _ q).2.2.2.1 rfl
          · exact hoff p hp (.tail _ (.tail _ q))
    have T := turn i v oI own₃ ys nx h₃ tk₃ hlt hPv hj hO₃ F₃ N₃ hoff
    have fin : ∀ (ys' : List Value) (s₄ : Shared), ys'.length ≤ i + 1 → CTurn h₀ L m (J (i + 1) ys') ((I, oI) :: (own₃ ++ (D, lstO ys) :: old)) (I :: D :: ca) s s₄ →
        ∃ h tk nx, s₄ = { s with heap := h, toks := tk } ∧ St (i + 1) h ∧ Fr h₀ L h m ∧ News h₀ L h (own₃ ++ (D, lstO ys) :: (nx ++ old)) ∧ (∀ p ∈ nx ++ old, p.1 ∉ I :: D :: ca) ∧ J (i + 1) ys' nx := by
      rintro ys' s₄ _ ⟨h₄, tk₄, nx₄, news₄, rfl, F₄, N₄, h1, h2, h3, hj₄⟩
      have NN : News h₀ L h₄ (own₃ ++ (D, lstO ys) :: (nx₄ ++ old)) := by
        intro p hp
        refine N₄ p ?_
        rcases List.mem_append.mp hp with hp | hp
        · exact h2 p (.tail _ (List.mem_append_left _ hp))
        · rcases List.mem_cons.mp hp with rfl | hp
          · exact h2 _ (.tail _ (List.mem_append_right _ (.head _)))
          · rcases List.mem_append.mp hp with hp | hp
            · exact h1 p hp
            · exact h2 p (.tail _ (List.mem_append_right _ (.tail _ hp)))
      have No : News h₀ L h₄ (nx₄ ++ old) := fun p hp => NN p (List.mem_append_right _ (.tail _ hp))
      refine ⟨h₄, tk₄, nx₄, rfl, hSt _ _ _ oI ys' nx₄ hlt hst₃ heI (N₄ _ (h2 _ (.head _))).1 F₄ No hj₄, F₄, NN, ?_, hj₄⟩
      intro p hp
      rcases List.mem_append.mp hp with hp | hp
      · exact h3 p hp
      · exact hoff p (List.mem_append_right _ hp)
    refine wpAny_mono (TestsP.run (E := notedBy (model prog w) A cenv fun e s' => R (.error e) s') T) (fun b s₃ hb => ?_) fun _ _ e => e
    cases b with
    | false =>
      simp only [Bool.false_eq_true, if_false] at hb ⊢
      obtain ⟨h₄, tk₄, nx₄, rfl, hst₄, F₄, N₄, off₄, hj₄⟩ := fin ys s₃ (Nat.le_succ_of_le hyl) hb
      exact ⟨n + 1 - (i + 1), by omega, h₄, tk₄, i + 1, ys, own₃, nx₄, _, rfl, hlt, rfl, Nat.le_succ_of_le hyl, hst₄, F₄, hO₃, N₄, off₄, hj₄⟩
    | true =>
      simp only [if_true] at hb ⊢
      refine wpAny_mono hb (fun y s₄ hy => ?_) fun _ _ e => e.elim
      obtain ⟨h₄, tk₄, nx₄, rfl, hst₄, F₄, N₄, off₄, hj₄⟩ := fin (ys ++ [y]) s₄ (by rw [List.length_append, List.length_singleton]; omega) hy
      have zD := (N₄ (D, lstO ys) (List.mem_append_right _ (.head _))).1
      refine append_at (hsz := by show ys.toArray.size ≤ sizeLine; rw [List.size_toArray]; omega) zD fun h₅ hs₅ hD₅ => ?_
      refine ⟨n + 1 - (i + 1), by omega, h₅, tk₄, i + 1, ys ++ [y], own₃, nx₄, _, rfl, hlt, rfl, by rw [List.length_append, List.length_singleton]; omega, W.frame _ _ _ hst₄ fun b hb o e => hs₅.extBut b o (fun q => hD.2.2 (q ▸ hb)) e,
        F₄.change hs₅ hD.1 hD.2.1, hO₃, ?_, off₄, hj₄⟩
      intro p hp
      rcases List.mem_append.mp hp with hp | hp
      · have z := N₄ p (List.mem_append_left _ hp)
        exact ⟨hs₅.extBut _ _ (hca _ (ownI hO₃ p hp)).2.2.2.1 z.1, z.2⟩
      · rcases List.mem_cons.mp hp with rfl | hp
        · exact ⟨hD₅.trans (congrArg some (LCg.lst_snoc ys y)), hD.1, hD.2.1⟩
        · have z := N₄ p (List.mem_append_right _ (.tail _ hp))
          exact ⟨hs₅.extBut _ _ (fun q => off₄ p hp (q ▸ .tail _ (.head _))) z.1, z.2⟩
  · obtain rfl : i = n := Nat.le_antisymm hi (Nat.not_lt.mp hlt)
    refine W.done _ _ _ hst fun h₂ tk₂ hk₂ => ?_
    exact done h₂ tk₂ ys own nx u hj hO (fr_off F hk₂ (by simpa using hI.1.symm) (by simpa using hI.2.1)) (news_off N hk₂ offI) hoff
end
end Mine
end
section
open PySem PySem.W PySem.Calls PyProof.Rows
set_option maxRecDepth 100000
namespace Mine

def OwnC (C : Addr) (x : Str) (own : List (Addr × Obj)) (u : Option Value) : Prop := ∃ oC m₂, own = [(C, oC)] ∧ LCg.NsObj oC m₂ ∧ ∀ v, u = some v → m₂ x = some v

theorem ownC {prog : Program} {w : World} {A : Around} {C : Addr} {x : Str} {px : Pos} {scope : Scope} {cl : List (Str × Addr)} {env : Env} (hkind : scope.kind = .function) (hx : scope.names.lookup x = some .local) :
    OwnOf (model prog w) A (compEnvC scope cl C env) (.Name x px) [C] (OwnC C x) where
  at_ := by rintro own v ⟨oC, m₂, rfl, _⟩; rfl
  asg := by
    rintro s v u own E Q ⟨oC, m₂, rfl, hC, _⟩ ho hQ
    refine wpAny_assign_Name (wpAny_storeName_local (lookup_relabel_local hx) (hC.ns (ho _ (.head _))) (fun h₃ hn₃ hs₃ => ?_) (by simp [compEnvC, relabel, hkind]))
    obtain ⟨o₃, e₃, hC₃⟩ := LCg.ns_obj hn₃
    refine hQ _ _ [(C, o₃)] ⟨o₃, _, rfl, hC₃, fun v' e => ?_⟩ (fun p hp => ?_) fun b o hb e => hs₃.extBut b o (fun q => hb (List.mem_singleton.mpr q)) e
    · cases e; simp
    · rw [List.mem_singleton.mp hp]; exact e₃

section
variable {prog : Program} {w : World} {A : Around} {s : Shared} {h₀ : Heap} {L : Addr} {m : Str → Option Value} {env : Env}

def CompRun (prog : Program) (w : World) (A : Around) (env : Env) (elt iter target : Expr) (ifs : List Expr) (scope : Scope) (cl : List (Str × Addr)) (pos : Pos) (E : Value → Shared → Prop) (RR : Value → Addr → Result → Shared → Prop) (it : Value) (s : Shared) : Prop :=
  wpAny (model prog w) A (newList []) (fun acc s₃ => wpAny (model prog w) A (newFunctionEnv scope env.globals cl [] env.qual none .none (some env)) (fun cenv s₄ =>
    codeAny (model prog w) A (.compStart (.ListComp elt [⟨target, iter, ifs, 0⟩] scope pos) 0 it acc { cenv with scope := relabel scope env }) (RR acc cenv.locals) s₄) E s₃) E s

theorem Comp_ev {elt iter : Expr} {x : Str} {px : Pos} {ifs : List Expr} {scope : Scope} {cl : List (Str × Addr)} {pos : Pos} {Q : Value → Shared → Prop} {E : Value → Shared → Prop}
    (hclos : closureFor scope env = pure cl) (hkind : scope.kind = .function) (hnames : ∀ y ∈ scope.names, y.2 = .local → scope.names.lookup y.1 = some .local)
    (h : wpAny (model prog w) A (eval iter env) (fun xv s₁ => wpAny (model prog w) A (pyIter xv) (fun it s₂ => CompRun prog w A env elt iter (.Name x px) ifs scope cl pos E (fun acc C => compPost (model prog w) A E none Q acc C) it s₂) E s₁) E s)
    (hs : ∀ x, foldedSetIterable iter env x = pure x := by intro _; rfl) :
    wpAny (model prog w) A (eval (.ListComp elt [⟨.Name x px, iter, ifs, 0⟩] scope pos) env) Q E s := by
  rw [eval_ListComp]
  exact wpAny_comprehension_free (use := none) rfl hs hclos hkind hnames h

theorem Comp_as {elt iter : Expr} {x y : Str} {px py : Pos} {ifs : List Expr} {scope : Scope} {cl : List (Str × Addr)} {pos spos : Pos} {Q : Flow → Shared → Prop} {E : Value → Shared → Prop}
    (hsw : swapsWith (.ListComp elt [⟨.Name x px, iter, ifs, 0⟩] scope pos) (some (.Name y py)) spos.line env = pure true)
    (hclos : closureFor scope env = pure cl) (hkind : scope.kind = .function) (hnames : ∀ y ∈ scope.names, y.2 = .local → scope.names.lookup y.1 = some .local)
    (h : wpAny (model prog w) A (eval iter env) (fun xv s₁ => wpAny (model prog w) A (pyIter xv) (fun it s₂ => CompRun prog w A env elt iter (.Name x px) ifs scope cl pos E (fun acc C => compPost (model prog w) A E (some (assign (.Name y py) env)) (fun _ s' => Q .next s') acc C) it s₂) E s₁) E s)
    (hs : ∀ x, foldedSetIterable iter env x = pure x := by intro _; rfl) :
    wpAny (model prog w) A (exec (.Assign [.Name y py] (.ListComp elt [⟨.Name x px, iter, ifs, 0⟩] scope pos) spos) env) Q E s := by
  rw [exec_Assign_Name_used _ _ _ _ hsw]
  refine wpAny_bind (wpAny_standAt (wpAny_bind ?_))
  show wpAny _ A (do let _ ← comprehension (.ListComp elt [⟨.Name x px, iter, ifs, 0⟩] scope pos) scope env _ (newList []) false (eval iter env) (some (assign (.Name y py) env))) _ _ s
  exact wpAny_bind (wpAny_mono (wpAny_comprehension_free (use := some (assign (.Name y py) env)) (Q := fun _ s' => Q .next s') rfl hs hclos hkind hnames h) (fun _ s' hq => wpAny_pure (wpAny_pure hq)) fun _ _ e => e)

/-- how a block is left -/
def CompK (h₀ : Heap) (L : Addr) (m : Str → Option Value) (RR : Value → Addr → Result → Shared → Prop) (mm : Addr → Str → Option Value) (Qf : Addr → Shared → Prop) (s : Shared) : Prop :=
  ∀ D C h tk m' (ys : List Value) news', h₀.get? C = none → C ≠ L → Fr h₀ L h m → News h₀ L h ((D, lstO ys) :: news') → h.Ns C m' → C ≠ D → (∀ p ∈ news', p.1 ≠ C) →
    (∀ h'' tk'', Fr h₀ L h'' (mm D) → News h₀ L h'' ((D, lstO ys) :: news') → Qf D { s with heap := h'', toks := tk'' }) → RR (.ref D) C (.ok .next) { s with heap := h, toks := tk }

theorem news_change {h₀ h h' : Heap} {L C : Addr} {news : List (Addr × Obj)} (N : News h₀ L h news) (hs : Heap.SameBut C h h') (off : ∀ p ∈ news, p.1 ≠ C) : News h₀ L h' news :=
  fun p hp => ⟨hs.extBut _ _ (off p hp) (N p hp).1, (N p hp).2⟩
theorem off_cons {D C : Addr} {o : Obj} {news : List (Addr × Obj)} (h : C ≠ D) (off : ∀ p ∈ news, p.1 ≠ C) : ∀ p ∈ (D, o) :: news, p.1 ≠ C := fun p hp => by
  rcases List.mem_cons.mp hp with rfl | hp
  · exact Ne.symm h
  · exact off p hp

theorem compK_ev {Q : Value → Shared → Prop} {E : Value → Shared → Prop} : CompK h₀ L m (fun acc C => compPost (model prog w) A E none Q acc C) (fun _ => m) (fun D s' => Q (.ref D) s') s := by
  intro D C h tk m' ys news' hC hCL F N hn hCD off k
  exact ⟨m', hn, fun h' hs => k h' tk (F.change hs hCL hC) (news_change N hs (off_cons hCD off))⟩
theorem compK_as {y : Str} {py : Pos} {Q : Flow → Shared → Prop} {E : Value → Shared → Prop} (hLe : env.locals = L) (hy : env.kindOf y = some .local) (hp : (env.scope.kind == .class || (env.scope.kind == .module && env.locals != env.globals)) = false) :
    CompK h₀ L m (fun acc C => compPost (model prog w) A E (some (assign (.Name y py) env)) (fun _ s' => Q .next s') acc C) (fun D z => if z = y then some (.ref D) else m z) (fun _ s' => Q .next s') s := by
  subst hLe
  intro D C h tk m' ys news' hC hCL F N hn hCD off k
  show wpAny _ A (assign (.Name y py) env (.ref D)) _ _ _
  refine wpAny_assign_Name (wpAny_storeName_local hy F.ns (fun h₂ hn₂ hs₂ => ?_) hp)
  have F₂ : Fr h₀ env.locals h₂ (fun z => if z = y then some (.ref D) else m z) := F.set hn₂ hs₂
  have N₂ : News h₀ env.locals h₂ ((D, lstO ys) :: news') := N.set hs₂
  exact ⟨m', hn.sameBut hs₂ hCL, fun h' hs => k h' _ (F₂.change hs hCL hC) (news_change N₂ hs (off_cons hCD off))⟩

/-- a block over a source -/
theorem block_J {elt iter : Expr} {x : Str} {px : Pos} {ifs : List Expr} {scope : Scope} {cl : List (Str × Addr)} {pos : Pos} {E : Value → Shared → Prop} {RR : Value → Addr → Result → Shared → Prop} {mm : Addr → Str → Option Value} {Qf : Addr → Shared → Prop}
    {I : Addr} {fp : List Addr} {n : Nat} {P : Nat → Value → Prop} {St : Nat → Heap → Prop} {nx old : List (Addr × Obj)}
    (W : Walks prog w A I fp [I] n P St) (J : Nat → List Value → List (Addr × Obj) → Prop) (K : CompK h₀ L m RR mm Qf s) (hsz : n ≤ sizeLine)
    (hcell : ∀ y ∈ scope.names, y.2 ≠ .cell) (hkind : scope.kind = .function) (hx : scope.names.lookup x = some .local)
    (hIo : ∀ i h, St i h → ∃ o, h.get? I = some o)
    (hSt : ∀ i h h' o ys nx, i ≤ n → St i h → h.get? I = some o → h'.get? I = some o → Fr h₀ L h' m → News h₀ L h' (nx ++ old) → J i ys nx → St i h')
    (hI : I ≠ L ∧ h₀.get? I = none) (hfp : ∀ b ∈ fp, b < s.heap.objs.size)
    (hst : St 0 s.heap) (F : Fr h₀ L s.heap m) (N : News h₀ L s.heap (nx ++ old)) (hoff : ∀ p ∈ nx ++ old, p.1 ≠ I) (hj : J 0 [] nx)
    (turn : ∀ i v I oI C oC D m₂ ys nx h tk, i < n → P i v → J i ys nx → LCg.NsObj oC m₂ → m₂ x = some v → Fr h₀ L h m → News h₀ L h ((I, oI) :: (C, oC) :: (D, lstO ys) :: (nx ++ old)) → (∀ p ∈ nx ++ old, p.1 ∉ [I, D, C]) → ((@Ne Nat I C) ∧ (@Ne Nat I D) ∧ (@Ne Nat C D)) → s.heap.objs.size ≤ D → D < C →
      TestsP (model prog w) A ifs (compEnvC scope cl C env) (fun b s₂ => if b = true then wpAny (model prog w) A (eval elt (compEnvC scope cl C env)) (fun y s₃ => CTurn h₀ L m (J (i + 1) (ys ++ [y])) ((I, oI) :: (C, oC) :: (D, lstO ys) :: old) [I, D, C] s s₃) F0 s₂
        else CTurn h₀ L m (J (i + 1) ys) ((I, oI) :: (C, oC) :: (D, lstO ys) :: old) [I, D, C] s s₂) { s with heap := h, toks := tk })
    (done : ∀ D h tk ys nx, J n ys nx → Fr h₀ L h (mm D) → News h₀ L h ((D, lstO ys) :: (nx ++ old)) → (∀ p ∈ nx ++ old, p.1 ≠ D) → Qf D { s with heap := h, toks := tk }) :
    CompRun prog w A env elt iter (.Name x px) ifs scope cl pos E RR (.ref I) s := by
  unfold CompRun
  refine wpAny_newObj_type (wpAny_newFunctionEnv hcell (by intro y hy; simp at hy) (fun h₁ hns₁ hsb₁ => ?_) hkind)
  dsimp only at hns₁ hsb₁ ⊢
  generalize hH2 : s.heap.push { cls := .type "list", dict := none, data := .seq ([] : List Value).toArray } = H2 at hns₁ hsb₁ ⊢
  have hC : H2.objs.size = s.heap.objs.size + 1 := by rw [← hH2, Heap.size_push]
  have hDC : s.heap.objs.size ≠ H2.objs.size := by rw [hC]; exact Nat.ne_of_lt (Nat.lt_succ_self _)
  have below : ∀ b, b < s.heap.objs.size → b ≠ H2.objs.size ∧ b ≠ s.heap.objs.size := fun b hb => ⟨by rw [hC]; exact Nat.ne_of_lt (Nat.lt_succ_of_lt hb), Nat.ne_of_lt hb⟩
  have hDf : s.heap.objs.size ∉ fp := fun hm => Nat.lt_irrefl _ (hfp _ hm)
  have hCf : H2.objs.size ∉ fp := fun hm => by have := hfp _ hm; rw [hC] at this; exact Nat.lt_irrefl _ (Nat.lt_of_succ_lt this)
  have hIlt : I < s.heap.objs.size := hfp I (W.sub I (List.mem_singleton.mpr rfl))
  have old' : ∀ b o, s.heap.get? b = some o → h₁.get? b = some o := fun b o e => hsb₁.extBut b o (below b (Heap.lt_size e)).1 (Heap.get?_push_of_some _ (hH2 ▸ Heap.get?_push_of_some _ e))
  have hacc : h₁.get? s.heap.objs.size = some (lstO []) := hsb₁.extBut _ _ hDC (Heap.get?_push_of_some _ (hH2 ▸ Heap.get?_push_size _ rfl))
  have hst₁ : St 0 h₁ := W.frame _ _ _ hst fun b _ o e => old' b o e
  have fresh₀ : ∀ a, s.heap.objs.size ≤ a → h₀.get? a = none := fun a ha => by
    cases e : h₀.get? a with
    | none => rfl
    | some o' => exact absurd (Heap.lt_size (F.keep a o' e)) (Nat.not_lt.mpr ha)
  have hD₀ : h₀.get? s.heap.objs.size = none := fresh₀ _ (Nat.le_refl _)
  have hC₀ : h₀.get? H2.objs.size = none := fresh₀ _ (by rw [hC]; exact Nat.le_succ _)
  have hLlt : L < s.heap.objs.size := F.ns.lt
  obtain ⟨oC, eC, hoC⟩ := LCg.ns_obj hns₁
  have offD : ∀ p ∈ nx ++ old, p.1 ∉ I :: s.heap.objs.size :: [H2.objs.size] := by
    intro p hp q
    have b := below _ (Heap.lt_size (N p hp).1)
    rcases List.mem_cons.mp q with e | q
    · exact hoff p hp e
    · rcases List.mem_cons.mp q with e | q
      · exact b.2 e
      · exact b.1 (List.mem_singleton.mp q)
  have loop : ∀ s₃ : Shared, s₃ = { s with heap := h₁, toks := s.toks + ([] : List (Str × Value)).length } →
      codeAny (model prog w) A (.compLoop (.ListComp elt [⟨.Name x px, iter, ifs, 0⟩] scope pos) 0 (.ref I) (.ref s.heap.objs.size) (compEnvC scope cl H2.objs.size env))
        (RR (.ref s.heap.objs.size) H2.objs.size) s₃ := by
    rintro s₃ rfl
    refine loop_J (own := [(H2.objs.size, oC)]) (nx := nx) (old := old) (ca := [H2.objs.size]) (u := none) W J (ownC hkind hx) hsz hIo hSt ?_ ⟨hI.1, hI.2, (below I hIlt).2⟩ ⟨Ne.symm (below L hLlt).2, hD₀, hDf⟩ hst₁ (F.keeps old') ?_ ⟨oC, _, rfl, hoC, fun _ e => nomatch e⟩ offD hj ?_ ?_
    · intro a ha
      rw [List.mem_singleton.mp ha]
      exact ⟨Ne.symm (below L hLlt).1, hC₀, Ne.symm (below I hIlt).1, Ne.symm hDC, hCf⟩
    · intro p hp
      rcases List.mem_cons.mp hp with rfl | hp
      · exact ⟨eC, Ne.symm (below L hLlt).1, hC₀⟩
      · rcases List.mem_cons.mp hp with rfl | hp
        · exact ⟨hacc, Ne.symm (below L hLlt).2, hD₀⟩
        · exact ⟨old' _ _ (N p hp).1, (N p hp).2⟩
    · rintro i v oI own ys nx h tk hi hP hJ ⟨oC', m₂, rfl, hC', hv⟩ F' N' off'
      refine tests_rebase ?_
      exact turn i v I oI H2.objs.size oC' s.heap.objs.size m₂ ys nx h tk hi hP hJ hC' (hv v rfl) F' N' off' ⟨(below I hIlt).1, (below I hIlt).2, Ne.symm hDC⟩ (Nat.le_refl _) (by rw [hC]; exact Nat.lt_succ_self _)
    · rintro h tk ys own nx u hJ ⟨oC', m₂, rfl, hC', _⟩ F' N' off'
      have ND : News h₀ L h ((s.heap.objs.size, lstO ys) :: (nx ++ old)) := fun p hp => N' p (.tail _ hp)
      have offD' : ∀ p ∈ nx ++ old, p.1 ≠ s.heap.objs.size := fun p hp e => off' p hp (e ▸ .tail _ (.head _))
      exact K _ _ h tk m₂ ys (nx ++ old) hC₀ (Ne.symm (below L hLlt).1) F' ND (hC'.ns (N' _ (.head _)).1) (Ne.symm hDC) (fun p hp e => off' p hp (e ▸ .tail _ (.tail _ (.head _)))) fun h'' tk'' F'' N'' => done _ h'' tk'' ys nx hJ F'' N'' offD'
  exact codeAny_compStart_list (loop _ rfl) (W.self 0 _ _ _ hst₁ (loop _ rfl))

theorem run_base {elt iter target : Expr} {ifs : List Expr} {scope : Scope} {cl : List (Str × Addr)} {pos : Pos} {E : Value → Shared → Prop} {RR : Value → Addr → Result → Shared → Prop} {it : Value} {s' : Shared} (e : s' = s) (h : CompRun prog w A env elt iter target ifs scope cl pos E RR it s) :
    CompRun prog w A env elt iter target ifs scope cl pos E RR it s' := e ▸ h

/-- over a list that stays as it is -/
theorem list_J {elt iter : Expr} {x : Str} {px : Pos} {ifs : List Expr} {scope : Scope} {cl : List (Str × Addr)} {pos : Pos} {E : Value → Shared → Prop} {RR : Value → Addr → Result → Shared → Prop} {mm : Addr → Str → Option Value} {Qf : Addr → Shared → Prop}
    {l : Addr} {vs : List Value} {nx old : List (Addr × Obj)}
    (J : Nat → List Value → List (Addr × Obj) → Prop) (K : ∀ g, CompK h₀ L m RR mm Qf { s with heap := g }) (hh : A.handled = none) (hl : s.heap.IsList l vs.toArray) (hsz : vs.length ≤ sizeLine)
    (hsrc : ∀ i ys nx h, i ≤ vs.length → J i ys nx → Fr h₀ L h m → News h₀ L h (nx ++ old) → ∀ o, s.heap.get? l = some o → h.get? l = some o)
    (F : Fr h₀ L s.heap m) (N : News h₀ L s.heap (nx ++ old)) (hj : J 0 [] nx)
    (turn : ∀ i v I oI C oC D m₂ ys nx h tk, i < vs.length → vs[i]? = some v → J i ys nx → LCg.NsObj oC m₂ → m₂ x = some v → h.IsList l vs.toArray → Fr h₀ L h m → News h₀ L h ((I, oI) :: (C, oC) :: (D, lstO ys) :: (nx ++ old)) → (∀ p ∈ nx ++ old, p.1 ∉ [I, D, C]) → ((@Ne Nat I C) ∧ (@Ne Nat I D) ∧ (@Ne Nat C D)) → (s.heap.objs.size < D ∧ D < C) →
      TestsP (model prog w) A ifs (compEnvC scope cl C env) (fun b s₂ => if b = true then wpAny (model prog w) A (eval elt (compEnvC scope cl C env)) (fun y s₃ => CTurn h₀ L m (J (i + 1) (ys ++ [y])) ((I, oI) :: (C, oC) :: (D, lstO ys) :: old) [I, D, C] s s₃) F0 s₂
        else CTurn h₀ L m (J (i + 1) ys) ((I, oI) :: (C, oC) :: (D, lstO ys) :: old) [I, D, C] s s₂) { s with heap := h, toks := tk })
    (done : ∀ D h tk ys nx, J vs.length ys nx → Fr h₀ L h (mm D) → News h₀ L h ((D, lstO ys) :: (nx ++ old)) → (∀ p ∈ nx ++ old, p.1 ≠ D) → Qf D { s with heap := h, toks := tk })
    (hcell : ∀ y ∈ scope.names, y.2 ≠ .cell := by decide) (hkind : scope.kind = .function := by rfl) (hx : scope.names.lookup x = some .local := by rfl) :
    wpAny (model prog w) A (pyIter (.ref l)) (fun it s₂ => CompRun prog w A env elt iter (.Name x px) ifs scope cl pos E RR it s₂) E s := by
  refine wpAny_pyIter_list hl ?_
  obtain ⟨ol, hol, rl⟩ := id hl
  have hlt : l < s.heap.objs.size := Heap.lt_size hol
  have W := Walks.list (prog := prog) (w := w) hh s.heap.objs.size l (Nat.ne_of_lt hlt) vs.toArray
  have hlen : vs.toArray.size = vs.length := by simp
  rw [hlen] at W
  have hI0 : h₀.get? s.heap.objs.size = none := by
    cases e : h₀.get? s.heap.objs.size with
    | none => rfl
    | some o => exact absurd (Heap.lt_size (F.keep _ _ e)) (Nat.lt_irrefl _)
  refine block_J (nx := nx) (old := old) W J (K _) hsz hcell hkind hx (fun i h st => by obtain ⟨o, e, _⟩ := st.1; exact ⟨o, e⟩) ?_ ⟨Nat.ne_of_gt F.ns.lt, hI0⟩ ?_ ⟨⟨_, Heap.get?_push_size _ rfl, rfl, rfl⟩, hl.push _⟩ (F.push _) (fun p hp => ⟨Heap.get?_push_of_some _ (N p hp).1, (N p hp).2⟩)
    (fun p hp => Nat.ne_of_lt (Heap.lt_size (N p hp).1)) hj ?_ ?_
  · rintro i h h' o ys nx hi st e e' F' N' hJ
    refine ⟨?_, ⟨ol, hsrc i ys nx h' hi hJ F' N' ol hol, rl⟩⟩
    obtain ⟨o', q, r⟩ := st.1
    rw [e] at q; cases q
    exact ⟨o, e', r⟩
  · intro b hb
    show b < (s.heap.push _).objs.size
    rw [Heap.size_push]
    rcases List.mem_cons.mp hb with rfl | hb
    · exact Nat.lt_succ_self _
    · rw [List.mem_singleton.mp hb]; exact Nat.lt_succ_of_lt hlt
  · intro i v I oI C oC D m₂ ys nx h tk hi hP hJ hC hv F' N' off' ne' hle hDC
    have hlh : h.IsList l vs.toArray := ⟨ol, hsrc i ys nx h (Nat.le_of_lt hi) hJ F' (fun p hp => N' p (.tail _ (.tail _ (.tail _ hp)))) ol hol, rl⟩
    have hle' : s.heap.objs.size < D := by
      dsimp only at hle
      rw [Heap.size_push] at hle; exact hle
    have T := turn i v I oI C oC D m₂ ys nx h tk hi (by simpa using hP) hJ hC hv hlh F' N' off' ne' ⟨hle', hDC⟩
    exact tests_rebase (tk := s.toks) T
  · intro D h tk ys nx hJ F' N' off'
    exact done D h tk ys nx hJ F' N' off'

/-- over a range -/
theorem range_J {elt iter : Expr} {x : Str} {px : Pos} {ifs : List Expr} {scope : Scope} {cl : List (Str × Addr)} {pos : Pos} {E : Value → Shared → Prop} {RR : Value → Addr → Result → Shared → Prop} {mm : Addr → Str → Option Value} {Qf : Addr → Shared → Prop}
    {r : Addr} {a b : Int} {t u v : Tok} {n : Nat} {nx old : List (Addr × Obj)}
    (J : Nat → List Value → List (Addr × Obj) → Prop) (K : ∀ g, CompK h₀ L m RR mm Qf { s with heap := g }) (hh : A.handled = none) (hr : IsRange s.heap r a b 1 t u v) (hsmall : Builtin.Range.small a b 1 = true) (hn : Builtin.Range.rangeSize a b 1 = (n : Int)) (hsz : n ≤ sizeLine)
    (F : Fr h₀ L s.heap m) (N : News h₀ L s.heap (nx ++ old)) (hj : J 0 [] nx)
    (turn : ∀ (i : Nat) t I oI C oC D m₂ ys nx h tk, i < n → J i ys nx → LCg.NsObj oC m₂ → m₂ x = some (.int (a + i) t) → Fr h₀ L h m → News h₀ L h ((I, oI) :: (C, oC) :: (D, lstO ys) :: (nx ++ old)) → (∀ p ∈ nx ++ old, p.1 ∉ [I, D, C]) → ((@Ne Nat I C) ∧ (@Ne Nat I D) ∧ (@Ne Nat C D)) → (s.heap.objs.size < D ∧ D < C) →
      TestsP (model prog w) A ifs (compEnvC scope cl C env) (fun b s₂ => if b = true then wpAny (model prog w) A (eval elt (compEnvC scope cl C env)) (fun y s₃ => CTurn h₀ L m (J (i + 1) (ys ++ [y])) ((I, oI) :: (C, oC) :: (D, lstO ys) :: old) [I, D, C] s s₃) F0 s₂
        else CTurn h₀ L m (J (i + 1) ys) ((I, oI) :: (C, oC) :: (D, lstO ys) :: old) [I, D, C] s s₂) { s with heap := h, toks := tk })
    (done : ∀ D h tk ys nx, J n ys nx → Fr h₀ L h (mm D) → News h₀ L h ((D, lstO ys) :: (nx ++ old)) → (∀ p ∈ nx ++ old, p.1 ≠ D) → Qf D { s with heap := h, toks := tk })
    (hcell : ∀ y ∈ scope.names, y.2 ≠ .cell := by decide) (hkind : scope.kind = .function := by rfl) (hx : scope.names.lookup x = some .local := by rfl) :
    wpAny (model prog w) A (pyIter (.ref r)) (fun it s₂ => CompRun prog w A env elt iter (.Name x px) ifs scope cl pos E RR it s₂) E s := by
  refine wpAny_pyIter_range hr hsmall ?_
  have W := Walks.range (prog := prog) (w := w) hh s.heap.objs.size a 1 n
  have hI0 : h₀.get? s.heap.objs.size = none := by
    cases e : h₀.get? s.heap.objs.size with
    | none => rfl
    | some o => exact absurd (Heap.lt_size (F.keep _ _ e)) (Nat.lt_irrefl _)
  refine block_J (nx := nx) (old := old) W J (K _) hsz hcell hkind hx (fun i h st => ⟨_, st⟩) ?_ ⟨Nat.ne_of_gt F.ns.lt, hI0⟩ ?_ ?_ (F.push _) (fun p hp => ⟨Heap.get?_push_of_some _ (N p hp).1, (N p hp).2⟩)
    (fun p hp => Nat.ne_of_lt (Heap.lt_size (N p hp).1)) hj ?_ ?_
  · rintro i h h' o ys nx hi st e e' F' N' hJ
    exact LCg.range_st (h₀ := h₀) (L := L) (a := a) (n := n) i h h' o [] (by simpa [Int.mul_one] using st) e e' F'.keep News.nil trivial |> fun z => by simpa [Int.mul_one] using z
  · intro b hb
    show b < (s.heap.push _).objs.size
    rw [Heap.size_push, List.mem_singleton.mp hb]
    exact Nat.lt_succ_self _
  · show IsRangeIter _ _ _ _ _
    rw [hn]; simpa using Heap.get?_push_size _ rfl
  · intro i v I oI C oC D m₂ ys nx h tk hi hP hJ hC hv F' N' off' ne' hle hDC
    obtain ⟨t, rfl⟩ := hP
    have hle' : s.heap.objs.size < D := by
      dsimp only at hle
      rw [Heap.size_push] at hle; exact hle
    rw [Int.mul_one] at hv
    exact tests_rebase (tk := s.toks) (turn i t I oI C oC D m₂ ys nx h tk hi hJ hC hv F' N' off' ne' ⟨hle', hDC⟩)
  · intro D h tk ys nx hJ F' N' off'
    exact done D h tk ys nx hJ F' N' off'
end
end Mine
namespace Mine
section
variable {M : Model} {A : Around} {cenv : Env} {s : Shared} {X Y : Shared → Prop}
theorem TestsP.nil_if (h : X s) : TestsP M A [] cenv (fun b s₂ => if b = true then X s₂ else Y s₂) s := by
  show (if true = true then X s else Y s)
  rw [if_pos rfl]; exact h
theorem TestsP.one_if {c : Expr} (h : wpAny M A (isTrue c cenv (eval c cenv)) (fun b s₂ => if b = true then X s₂ else Y s₂) F0 s) : TestsP M A [c] cenv (fun b s₂ => if b = true then X s₂ else Y s₂) s := h
end
end Mine
end
section
open PySem PySem.W PySem.Calls PyProof.Rows
namespace Mine
section
variable {prog : Program} {w : World} {A : Around} {s : Shared}
/-! what is behind a stretch of code, as one letter -/
theorem abs_S {c : Sem Flow} {T : Flow → Shared → Prop} {E : Value → Shared → Prop} (h : ∀ R : Flow → Shared → Prop, (∀ f s, T f s → R f s) → wpAny (model prog w) A c R E s) : wpAny (model prog w) A c T E s :=
  h T fun _ _ x => x
theorem abs_T {target : Expr} {env : Env} {v : Value} {body : List Stmt} {T : Flow → Shared → Prop} (h : ∀ R : Flow → Shared → Prop, (∀ f s, T f s → R f s) → wpAny (model prog w) A (assign target env v) (fun _ s₂ => wpAny (model prog w) A (execs body env) R F0 s₂) F0 s) :
    wpAny (model prog w) A (assign target env v) (fun _ s₂ => wpAny (model prog w) A (execs body env) T F0 s₂) F0 s := h T fun _ _ x => x
theorem abs_C {ifs : List Expr} {elt : Expr} {cenv : Env} {T : Value → Shared → Prop} {T' : Shared → Prop} (h : ∀ (R : Value → Shared → Prop) (R' : Shared → Prop), (∀ v s, T v s → R v s) → (∀ s, T' s → R' s) →
      TestsP (model prog w) A ifs cenv (fun b s₂ => if b = true then wpAny (model prog w) A (eval elt cenv) R F0 s₂ else R' s₂) s) :
    TestsP (model prog w) A ifs cenv (fun b s₂ => if b = true then wpAny (model prog w) A (eval elt cenv) T F0 s₂ else T' s₂) s := h T T' (fun _ _ x => x) fun _ x => x
theorem abs_law {env : Env} {c : Sem Flow} {T : Flow → Shared → Prop} {E : Value → Shared → Prop} (h : ∀ (R : Flow → Shared → Prop) (fr : Option (List Env)) (gd : Option (List Code)), (∀ f s, T f s → R f s) → wpAny (model prog w) (Ar 302 7 fr gd) c R F0 s) : wpAny (model prog w) (callerA.deeper env) c T E s :=
  wpAny_mono (h T _ _ fun _ _ x => x) (fun _ _ x => x) fun _ _ e => e.elim
end
end Mine
end
section
open PySem PySem.W PySem.Calls PyProof.Rows
set_option maxRecDepth 100000
namespace Mine
def OwnJ (C c : Addr) (own : List (Addr × Obj)) (u : Option Value) : Prop := ∃ oC m₂ oc, own = [(C, oC), (c, oc)] ∧ LCg.NsObj oC m₂ ∧ oc.data = .cell u

theorem ownJ {prog : Program} {w : World} {A : Around} {C c : Addr} {x : Str} {px : Pos} {scope : Scope} {cl : List (Str × Addr)} {env : Env} (hkind : scope.kind = .function) (hx : (compEnvC scope ((x, c) :: cl) C env).kindOf x = some .cell) (hCc : C ≠ c) :
    OwnOf (model prog w) A (compEnvC scope ((x, c) :: cl) C env) (.Name x px) [C, c] (OwnJ C c) where
  at_ := by rintro own v ⟨oC, m₂, oc, rfl, _⟩; rfl
  asg := by
    rintro s v u own E Q ⟨oC, m₂, oc, rfl, hC, hd⟩ ho hQ
    have hc : (compEnvC scope ((x, c) :: cl) C env).cells.lookup x = some c := by simp [compEnvC, List.lookup_cons]
    refine wpAny_assign_Name (wpAny_storeName_cell (by simp [compEnvC, relabel, hkind]) hx hc ⟨oc, ho _ (.tail _ (.head _)), hd⟩ fun h' hv hs => ?_)
    obtain ⟨o', e', hd'⟩ := hv
    refine hQ _ _ [(C, oC), (c, o')] ⟨oC, m₂, o', rfl, hC, hd'⟩ (fun p hp => ?_) fun b o hb e => hs.extBut b o (fun q => hb (by rw [q]; exact .tail _ (.head _))) e
    rcases List.mem_cons.mp hp with rfl | hp
    · exact hs.extBut _ _ hCc (ho _ (.head _))
    · rw [List.mem_singleton.mp hp]; exact e'

section
variable {prog : Program} {w : World} {A : Around} {s : Shared} {h₀ : Heap} {L : Addr} {m : Str → Option Value} {env : Env}

abbrev cellO0 : Obj := { cls := .type "cell", data := .cell none }
abbrev dictO0 : Obj := { cls := .type "dict", data := .dict #[] }
theorem newEnv_cell {scope : Scope} {cl : List (Str × Addr)} {x : Str} {Q : Env → Shared → Prop} {E : Value → Shared → Prop} (hcells : ∀ n acc, cellsFrom n scope.names acc = (x, n) :: acc) (hpush : ∀ h, pushCells h scope.names = h.push cellO0)
    (h : Q (newEnv scope s.heap.objs.size env.globals ((x, s.heap.objs.size + 1) :: cl) env.qual none .none (some env) builtinsNs) { s with heap := (s.heap.push dictO0).push cellO0 }) :
    wpAny (model prog w) A (newFunctionEnv scope env.globals cl [] env.qual none .none (some env)) Q E s := by
  simp only [newFunctionEnv, Option.isSome_some, if_true]
  refine wpAny_bind (wpAny_alloc ?_)
  refine wpAny_bind (wpAny_layCells _ (fun name kind cells => by cases hkc : kind == NameKind.cell <;> simp [hkc]) _ _ _ _ ?_)
  rw [hcells, hpush]
  dsimp only
  rw [Heap.size_push, List.forIn_nil]
  exact wpAny_bind (wpAny_pure (wpAny_pure h))

/-- a block over a range whose variable is captured -/
theorem rangeC_J {elt iter : Expr} {x : Str} {px : Pos} {ifs : List Expr} {scope : Scope} {cl : List (Str × Addr)} {pos : Pos} {E : Value → Shared → Prop} {RR : Value → Addr → Result → Shared → Prop} {mm : Addr → Str → Option Value} {Qf : Addr → Shared → Prop}
    {r : Addr} {a b : Int} {t u v : Tok} {n : Nat} {nx old : List (Addr × Obj)}
    (J : Nat → List Value → List (Addr × Obj) → Prop) (K : ∀ g, CompK h₀ L m RR mm Qf { s with heap := g }) (hh : A.handled = none) (hr : IsRange s.heap r a b 1 t u v) (hsmall : Builtin.Range.small a b 1 = true) (hn : Builtin.Range.rangeSize a b 1 = (n : Int)) (hsz : n ≤ sizeLine)
    (F : Fr h₀ L s.heap m) (N : News h₀ L s.heap (nx ++ old)) (hj : J 0 [] nx)
    (turn : ∀ (i : Nat) t I oI C oC c oc D m₂ ys nx h tk, i < n → J i ys nx → LCg.NsObj oC m₂ → oc.data = .cell (some (.int (a + i) t)) → Fr h₀ L h m → News h₀ L h ((I, oI) :: (C, oC) :: (c, oc) :: (D, lstO ys) :: (nx ++ old)) → (∀ p ∈ nx ++ old, p.1 ∉ [I, D, C, c]) → (s.heap.objs.size < D ∧ D < C ∧ C < c) →
      TestsP (model prog w) A ifs (compEnvC scope ((x, c) :: cl) C env) (fun b s₂ => if b = true then wpAny (model prog w) A (eval elt (compEnvC scope ((x, c) :: cl) C env)) (fun y s₃ => CTurn h₀ L m (J (i + 1) (ys ++ [y])) ((I, oI) :: (C, oC) :: (c, oc) :: (D, lstO ys) :: old) [I, D, C, c] s s₃) F0 s₂
        else CTurn h₀ L m (J (i + 1) ys) ((I, oI) :: (C, oC) :: (c, oc) :: (D, lstO ys) :: old) [I, D, C, c] s s₂) { s with heap := h, toks := tk })
    (done : ∀ D h tk ys nx, J n ys nx → Fr h₀ L h (mm D) → News h₀ L h ((D, lstO ys) :: (nx ++ old)) → (∀ p ∈ nx ++ old, p.1 ≠ D) → Qf D { s with heap := h, toks := tk })
    (hcells : ∀ n acc, cellsFrom n scope.names acc = (x, n) :: acc := by intro _ _; rfl) (hpush : ∀ h, pushCells h scope.names = h.push cellO0 := by intro _; rfl) (hkind : scope.kind = .function := by rfl) (hx : ∀ c C, (compEnvC scope ((x, c) :: cl) C env).kindOf x = some .cell := by intro _ _; rfl) :
    wpAny (model prog w) A (pyIter (.ref r)) (fun it s₂ => CompRun prog w A env elt iter (.Name x px) ifs scope cl pos E RR it s₂) E s := by
  refine wpAny_pyIter_range hr hsmall ?_
  have W := Walks.range (prog := prog) (w := w) hh s.heap.objs.size a 1 n
  generalize hg1 : ({ s with heap := s.heap.push _ } : Shared) = s₁
  obtain ⟨oIt, hs1, hIt⟩ : ∃ oIt, s₁ = { s with heap := s.heap.push oIt } ∧ (s.heap.push oIt).get? s.heap.objs.size = some oIt := ⟨_, hg1.symm, Heap.get?_push_size _ rfl⟩
  have hst : IsRangeIter s₁.heap s.heap.objs.size (a + (0 : Nat) * 1) ((n : Int) - (0 : Nat)) 1 := by
    rw [← hg1]
    show IsRangeIter _ _ _ _ _
    rw [hn]; simpa using Heap.get?_push_size _ rfl
  clear hg1
  subst hs1
  dsimp only at hst ⊢
  unfold CompRun
  refine wpAny_newObj_type (newEnv_cell hcells hpush ?_)
  dsimp only
  generalize hH2 : (s.heap.push oIt).push { cls := .type "list", dict := none, data := .seq ([] : List Value).toArray } = H2
  have hI2 : (s.heap.push oIt).objs.size = s.heap.objs.size + 1 := Heap.size_push ..
  have hC : H2.objs.size = s.heap.objs.size + 1 + 1 := by rw [← hH2, Heap.size_push, Heap.size_push]
  generalize hHH : (H2.push dictO0).push cellO0 = h₁
  have old' : ∀ b o, s.heap.get? b = some o → h₁.get? b = some o := fun b o e => by
    rw [← hHH, ← hH2]
    exact Heap.get?_push_of_some _ (Heap.get?_push_of_some _ (Heap.get?_push_of_some _ (Heap.get?_push_of_some _ e)))
  have old1 : ∀ b o, (s.heap.push oIt).get? b = some o → h₁.get? b = some o := fun b o e => by
    rw [← hHH, ← hH2]
    exact Heap.get?_push_of_some _ (Heap.get?_push_of_some _ (Heap.get?_push_of_some _ e))
  have hacc : h₁.get? (s.heap.push oIt).objs.size = some (lstO []) := by
    rw [← hHH, ← hH2]
    exact Heap.get?_push_of_some _ (Heap.get?_push_of_some _ (Heap.get?_push_size _ rfl))
  have hCC : h₁.get? H2.objs.size = some dictO0 := by
    rw [← hHH]; exact Heap.get?_push_of_some _ (Heap.get?_push_size _ rfl)
  have hcc : h₁.get? (H2.objs.size + 1) = some cellO0 := by
    rw [← hHH]
    have := Heap.get?_push_size (H2.push dictO0) (o := cellO0) rfl
    rwa [Heap.size_push] at this
  have fresh₀ : ∀ a, s.heap.objs.size ≤ a → h₀.get? a = none := fun a ha => by
    cases e : h₀.get? a with
    | none => rfl
    | some o' => exact absurd (Heap.lt_size (F.keep a o' e)) (Nat.not_lt.mpr ha)
  have hLlt : L < s.heap.objs.size := F.ns.lt
  have nlt : ∀ p ∈ nx ++ old, p.1 < s.heap.objs.size := fun p hp => Heap.lt_size (N p hp).1
  have hNs : LCg.NsObj dictO0 (fun _ => none) := by
    have z := Heap.Ns.new H2 (.type "dict")
    obtain ⟨o, e, hN⟩ := LCg.ns_obj z
    have e' : o = dictO0 := by
      have := Heap.get?_push_size H2 (o := dictO0) rfl
      exact Option.some.inj (e.symm.trans this)
    exact e' ▸ hN
  have loop : ∀ s₃ : Shared, s₃ = { s with heap := h₁, toks := s.toks } →
      codeAny (model prog w) A (.compLoop (.ListComp elt [⟨.Name x px, iter, ifs, 0⟩] scope pos) 0 (.ref s.heap.objs.size) (.ref (s.heap.push oIt).objs.size) (compEnvC scope ((x, H2.objs.size + 1) :: cl) H2.objs.size env))
        (RR (.ref (s.heap.push oIt).objs.size) H2.objs.size) s₃ := by
    rintro s₃ rfl
    refine loop_J (own := [(H2.objs.size, dictO0), (H2.objs.size + 1, cellO0)]) (nx := nx) (old := old) (ca := [H2.objs.size, H2.objs.size + 1]) (u := none) W J (ownJ hkind (hx _ _) (Nat.ne_of_lt (Nat.lt_succ_self _))) hsz (fun i h st => ⟨_, st⟩) ?_ ?_ ⟨Nat.ne_of_gt hLlt, fresh₀ _ (Nat.le_refl _), ?_⟩ ⟨?_, ?_, ?_⟩ ?_ (F.keeps old') ?_ ⟨dictO0, _, cellO0, rfl, hNs, rfl⟩ ?_ hj ?_ ?_
    · rintro i h h' o ys nx hi st e e' F' N' hJ
      exact LCg.range_st (h₀ := h₀) (L := L) (a := a) (n := n) i h h' o [] (by simpa [Int.mul_one] using st) e e' F'.keep News.nil trivial |> fun z => by simpa [Int.mul_one] using z
    · intro q hq
      have h1 : q = s.heap.objs.size + 1 + 1 ∨ q = s.heap.objs.size + 1 + 1 + 1 := by
        rcases List.mem_cons.mp hq with rfl | hq
        · exact .inl hC
        · rw [List.mem_singleton.mp hq, hC]; exact .inr rfl
      have h2 : s.heap.objs.size + 1 < q := by rcases h1 with h1 | h1 <;> rw [h1] <;> exact Nat.lt_succ_of_le (by first | exact Nat.le_refl _ | exact Nat.le_succ _)
      have h3 : s.heap.objs.size < q := Nat.lt_of_succ_lt h2
      exact ⟨Nat.ne_of_gt (Nat.lt_trans hLlt h3), fresh₀ _ (Nat.le_of_lt h3), Nat.ne_of_gt h3, by rw [hI2]; exact Nat.ne_of_gt h2, fun hm => by rw [List.mem_singleton.mp hm] at h3; exact Nat.lt_irrefl _ h3⟩
    · rw [hI2]; exact Nat.ne_of_lt (Nat.lt_succ_self _)
    · rw [hI2]; exact Nat.ne_of_gt (Nat.lt_succ_of_lt hLlt)
    · exact fresh₀ _ (by rw [hI2]; exact Nat.le_succ _)
    · rw [hI2]; exact fun hm => absurd (List.mem_singleton.mp hm) (Nat.ne_of_gt (Nat.lt_succ_self _))
    · exact W.frame _ _ _ hst fun b _ o e => old1 b o e
    · intro p hp
      rcases List.mem_append.mp hp with hp | hp
      · rcases List.mem_cons.mp hp with rfl | hp
        · exact ⟨hCC, Nat.ne_of_gt (by rw [hC]; exact Nat.lt_succ_of_lt (Nat.lt_succ_of_lt hLlt)), fresh₀ _ (by rw [hC]; exact Nat.le_succ_of_le (Nat.le_succ _))⟩
        · rw [List.mem_singleton.mp hp]
          exact ⟨hcc, Nat.ne_of_gt (by rw [hC]; exact Nat.lt_succ_of_lt (Nat.lt_succ_of_lt (Nat.lt_succ_of_lt hLlt))), fresh₀ _ (by rw [hC]; exact Nat.le_succ_of_le (Nat.le_succ_of_le (Nat.le_succ _)))⟩
      · rcases List.mem_cons.mp hp with rfl | hp
        · exact ⟨hacc, Nat.ne_of_gt (by rw [hI2]; exact Nat.lt_succ_of_lt hLlt), fresh₀ _ (by rw [hI2]; exact Nat.le_succ _)⟩
        · exact ⟨old' _ _ (N p hp).1, (N p hp).2⟩
    · intro p hp q
      have b := nlt p hp
      rcases List.mem_cons.mp q with e | q
      · rw [e] at b; exact Nat.lt_irrefl _ b
      · rcases List.mem_cons.mp q with e | q
        · rw [e, hI2] at b; exact absurd b (Nat.not_lt.mpr (Nat.le_succ _))
        · rcases List.mem_cons.mp q with e | q
          · rw [e, hC] at b; exact absurd b (Nat.not_lt.mpr (Nat.le_succ_of_le (Nat.le_succ _)))
          · rw [List.mem_singleton.mp q, hC] at b; exact absurd b (Nat.not_lt.mpr (Nat.le_succ_of_le (Nat.le_succ_of_le (Nat.le_succ _))))
    · rintro i v oI own ys nx h tk hi hP hJ ⟨oC', m₂, oc, rfl, hC', hd⟩ F' N' off'
      obtain ⟨t, rfl⟩ := hP
      rw [Int.mul_one] at hd
      refine tests_rebase ?_
      refine turn i t s.heap.objs.size oI H2.objs.size oC' (H2.objs.size + 1) oc (s.heap.push oIt).objs.size m₂ ys nx h tk hi hJ hC' hd F' N' off' ⟨?_, ?_, Nat.lt_succ_self _⟩
      · rw [hI2]; exact Nat.lt_succ_self _
      · rw [hI2, hC]; exact Nat.lt_succ_self _
    · rintro h tk ys own nx u hJ ⟨oC', m₂, oc, rfl, hC', _⟩ F' N' off'
      have ND : News h₀ L h (((s.heap.push oIt).objs.size, lstO ys) :: (nx ++ old)) := fun p hp => N' p (.tail _ (.tail _ hp))
      refine K h₁ _ _ h tk m₂ ys (nx ++ old) (fresh₀ _ (by rw [hC]; exact Nat.le_succ_of_le (Nat.le_succ _))) (Nat.ne_of_gt (by rw [hC]; exact Nat.lt_succ_of_lt (Nat.lt_succ_of_lt hLlt))) F' ND (hC'.ns (N' _ (.head _)).1) (Nat.ne_of_gt (by rw [hI2, hC]; exact Nat.lt_succ_self _)) (fun p hp e => off' p hp (e ▸ .tail _ (.tail _ (.head _)))) fun h'' tk'' F'' N'' => ?_
      exact done _ h'' tk'' ys nx hJ F'' N'' fun p hp e => off' p hp (e ▸ .tail _ (.head _))
  have hst₁ : IsRangeIter h₁ s.heap.objs.size (a + (0 : Nat) * 1) ((n : Int) - (0 : Nat)) 1 := W.frame _ _ _ hst fun b _ o e => old1 b o e
  exact codeAny_compStart_list (loop _ rfl) (W.self 0 _ _ _ hst₁ (loop _ rfl))
end
end Mine
end
section
open PySem PySem.W PySem.Calls PyProof.Rows
set_option maxRecDepth 100000
namespace Mine
theorem fmod_lt {a b : Int} (h : 0 < b) : 0 ≤ a.fmod b ∧ a.fmod b < b := by
  rw [Int.fmod_eq_emod_of_nonneg _ (Int.le_of_lt h)]
  exact ⟨Int.emod_nonneg _ (by omega), Int.emod_lt_of_pos _ h⟩
theorem pow_ne {a : Int} (h : a ≠ 0) (n : Nat) : a ^ n ≠ 0 := by
  induction n with
  | zero => rw [Int.pow_zero]; decide
  | succ n ih => rw [Int.pow_succ]; exact Int.mul_ne_zero ih h
theorem pow_py {x a : Int} {n : Nat} (ha : a.natAbs ≤ 4) (hn : n ≤ 1000) : Builtin.divisionGoesByPylong x (a ^ n) = false := by
  refine PyProof.noPylong_of_log2 ?_
  rw [Int.natAbs_pow]
  by_cases h0 : a.natAbs ^ n = 0
  · rw [h0]; decide +kernel
  · refine (Nat.log2_lt h0).mpr ?_
    calc a.natAbs ^ n ≤ 4 ^ n := Nat.pow_le_pow_left ha n
      _ = 2 ^ (2 * n) := by rw [Nat.pow_mul]
      _ < 2 ^ 9000 := Nat.pow_lt_pow_right (by decide) (by omega)
/-- the tied letters, as a list of lists -/
structure TiesAre (h : Heap) (l : Addr) (T : Nat → List Int) : Prop where
  out : ∃ as : List Addr, as.length = 4 ∧ h.IsList l (as.map Value.ref).toArray ∧ ∀ x a, as[x]? = some a → ∃ vs, h.IsList a vs.toArray ∧ IntsAre vs (T x) ∧ (T x).length ≤ 64
theorem TiesAre.ext {h h' : Heap} {l : Addr} {T : Nat → List Int} (x : TiesAre h l T) (k : Ext h h') : TiesAre h' l T := by
  obtain ⟨as, h4, hl, hi⟩ := x
  refine ⟨as, h4, hl.at fun o e => k _ o e, fun x a e => ?_⟩
  obtain ⟨vs, h1, h2⟩ := hi x a e
  exact ⟨vs, h1.at fun o e => k _ o e, h2⟩
section
variable {prog : Program} {w : World} {A : Around} {E : Value → Shared → Prop} {s : Shared}
/-- an item of the ties -/
theorem item_ties {value slice : PySem.Expr} {l : Addr} {T : Nat → List Int} {k : Int} {u : Tok} {Q : Value → Shared → Prop} (hT : TiesAre s.heap l T) (h0 : 0 ≤ k) (h1 : k < 4)
    (h : ∀ a vs, s.heap.IsList a vs.toArray → IntsAre vs (T k.toNat) → (T k.toNat).length ≤ 64 → Q (.ref a) s)
    (hs : subscripted slice false (.ref l) (.int k u) = operate [.ref l, .int k u] (getItem (.ref l) (.int k u)) := by with_unfolding_all rfl) :
    wpAny (model prog w) A (subscriptTail value slice (.ref l) (.int k u)) Q E s := by
  obtain ⟨as, h4, hl, hi⟩ := hT
  refine item_any hl h0 (by rw [List.length_map]; omega) (by rw [List.length_map]; omega) (fun v hv => ?_) hs
  rw [List.getElem?_map] at hv
  cases e : as[k.toNat]? with
  | none => rw [e] at hv; cases hv
  | some a =>
    rw [e] at hv
    cases hv
    obtain ⟨vs, q1, q2, q3⟩ := hi _ _ e
    exact h a vs q1 q2 q3
end
end Mine
end
section
open PySem PySem.W PySem.Calls PyProof.Rows
set_option maxRecDepth 100000
namespace Mine
section
variable {prog : Program} {w : World} {A : Around} {E : Value → Shared → Prop} {s : Shared} {h₀ : Heap} {L : Addr} {m : Str → Option Value}
theorem setItem_slice {l sl b : Addr} {items new : Array Value} {n k : Nat} {vl vu : Value} {lo hi : Option Int} {Q : Unit → Shared → Prop} (ho : s.heap.get? l = some (W.listOf items n)) (hb : s.heap.get? b = some (W.listOf new k)) (hne : b ≠ l)
    (hs : s.heap.IsSliceOf sl vl vu .none) (pl : IsPart vl lo) (pu : IsPart vu hi) (hsz : items.size + new.size ≤ 2 ^ 20)
    (hQ : ∀ n' h', h'.get? l = some (W.listOf (items.extract 0 (kms_lo lo items.size) ++ new ++ items.extract (max (kms_lo lo items.size) (kms_hi hi items.size)) items.size) n') → Heap.SameBut l s.heap h' → Q () { s with heap := h' }) :
    wpAny (model prog w) A (setItem (.ref l) (.ref sl) (.ref b)) Q E s := by
  have hl : s.heap.IsList l items := ⟨_, ho, rfl, n, rfl⟩
  have hbl : s.heap.IsList b new := ⟨_, hb, rfl, k, rfl⟩
  obtain ⟨os, hos, hcs, hds⟩ := id hs
  have hTs : s.TypeIs (.ref sl) "slice" := ⟨os, hos, hcs⟩
  unfold setItem
  refine wpAny_holding ?_
  refine wpAny_bind (wpAny_sequenceKey hl.typeIs (by decide) ?_)
  refine wpAny_bind (wpAny_callSpecial?_slot (name := Str.ofString "__setitem__") hl.typeIs slot_list_setitem
    (wpAny_call_entry slot_list_setitem hl.typeIs entry_list_setitem ?_ (args_list_setitem _ _ _)))
  show wpAny _ _ (Builtin.List.listSubscript? (.ref sl) >>= _) _ _ s
  refine wpAny_bind ?_
  unfold Builtin.List.listSubscript?
  refine wpAny_bind (wpAny_specialOf hTs slice_no_index ?_)
  simp only [Option.isNone_none, if_true]
  refine wpAny_pure ?_
  show wpAny _ _ (typeOf (.ref sl) >>= _) _ _ s
  refine wpAny_bind (wpAny_typeOf hTs ?_)
  rw [if_neg (by decide)]
  rw [listSliceParts_eq]
  have hstep : ¬ ((rawPart none == rawInt 0) = true) := Bool.false_ne_true
  refine wpAny_bind (wpAny_bind (wpAny_field hos hds (x := .none) rfl (wpAny_bind (wpAny_listPart .none ?_))))
  rw [if_neg hstep]
  refine wpAny_bind (wpAny_field hos hds (x := vl) rfl (wpAny_bind (wpAny_listPart pl ?_)))
  refine wpAny_bind (wpAny_field hos hds (x := vu) rfl (wpAny_bind (wpAny_listPart pu (wpAny_pure ?_))))
  dsimp only
  have hsame : ¬ (Builtin.List.listSameRef (.ref l) (.ref b) = true) := by
    show ¬ ((l == b) = true)
    intro q
    exact hne (beq_iff_eq.mp q).symm
  rw [if_neg hsame]
  refine wpAny_bind ?_
  unfold Builtin.List.listAllItems
  refine wpAny_bind (wpAny_typeOf hbl.typeIs ?_)
  rw [if_pos (by decide)]
  unfold Builtin.List.listItems
  refine wpAny_bind (wpAny_seqItems hb rfl (wpAny_pure ?_))
  refine wpAny_bind (wpAny_bind (wpAny_seqItems ho rfl (wpAny_pure ?_)))
  refine wpAny_bind (wpAny_of_eq (sliceIndices_raw lo hi none items.size (by simp)) ?_)
  rw [kms_bounds]
  dsimp only
  rw [if_pos (by decide)]
  refine wpAny_bind (wpAny_rule ?_)
  have hlong : ¬ (Builtin.List.listTooLong (items.size + new.size) = true) := by
    unfold Builtin.List.listTooLong
    rw [sizeLine_eq, decide_eq_true_eq]
    omega
  rw [if_neg hlong]
  have he1 : (items.extract 0 (kms_lo lo items.size)).size ≤ items.size := by rw [Array.size_extract]; omega
  have he2 : (items.extract (max (kms_lo lo items.size) (kms_hi hi items.size)) items.size).size ≤ items.size := by rw [Array.size_extract]; omega
  have hmax : (max ((kms_lo lo items.size : Nat) : Int) ((kms_hi hi items.size : Nat) : Int)).toNat = max (kms_lo lo items.size) (kms_hi hi items.size) := by omega
  have hup := PySem.IsL.update (h := s.heap) ho (fun xs => xs.extract 0 (kms_lo lo items.size) ++ new ++ xs.extract (max (kms_lo lo items.size) (kms_hi hi items.size)) xs.size)
  refine wpAny_bind ?_
  unfold Builtin.List.listUpdate
  dsimp only
  simp only [Int.toNat_natCast, hmax]
  refine wpAny_updateSeq ho rfl ?_ ?_ ?_
  · refine wpAny_bind (wpAny_letGo ?_)
    exact wpAny_pure ⟨_, rfl, wpAny_pure (hQ _ _ hup (Heap.SameBut.update ..))⟩
  · rw [sizeLine_eq]; omega
  · rw [sizeLine_eq, Array.size_append, Array.size_append]; omega

abbrev sliceO (vl vu : Value) : Obj := { cls := .type "slice", data := .fields #[vl, vu, .none] }
theorem setSlice_K {pre post : List (Addr × Obj)} {D b : Addr} {vs ws : List Value} {x y : Int} {t u : Tok} {n k tk : Nat} {hp : Heap} {Q : Unit → Shared → Prop} (F : Fr h₀ L hp m) (N : News h₀ L hp (pre ++ (D, W.listOf vs.toArray n) :: post)) (a : ∀ p ∈ pre, p.1 ≠ D) (c : ∀ p ∈ post, p.1 ≠ D)
    (hb : hp.get? b = some (W.listOf ws.toArray k)) (hne : b ≠ D) (hx : 0 ≤ x) (hxy : x ≤ y) (hy : y ≤ (vs.length : Int)) (hsz : vs.length + ws.length ≤ 2 ^ 20)
    (h : ∀ n' h', Fr h₀ L h' m → News h₀ L h' (pre ++ (D, W.listOf (vs.take x.toNat ++ ws ++ vs.drop y.toNat).toArray n') :: post) → Q () { s with heap := h', toks := tk }) :
    wpAny (model prog w) A (setItem (.ref D) (.ref hp.objs.size) (.ref b)) Q E { s with heap := hp.push (sliceO (.int x t) (.int y u)), toks := tk } := by
  have z := N (D, W.listOf vs.toArray n) (List.mem_append.mpr (.inr (.head _)))
  have k1 : kms_lo (some x) vs.toArray.size = x.toNat := by
    unfold kms_lo; dsimp only; rw [if_neg (by omega), List.size_toArray]; omega
  have k2 : kms_hi (some y) vs.toArray.size = y.toNat := by
    unfold kms_hi; dsimp only; rw [if_neg (by omega), List.size_toArray]; omega
  refine setItem_slice (n := n) (k := k) (lo := some x) (hi := some y) (Heap.get?_push_of_some _ z.1) (Heap.get?_push_of_some _ hb) hne (Heap.IsSliceOf.new _ _ _ _) (.int _ _) (.int _ _) (by rw [List.size_toArray, List.size_toArray]; omega) fun n' h' e hs => ?_
  rw [k1, k2] at e
  have ea : (vs.toArray.extract 0 x.toNat ++ ws.toArray ++ vs.toArray.extract (max x.toNat y.toNat) vs.toArray.size) = (vs.take x.toNat ++ ws ++ vs.drop y.toNat).toArray := by
    rw [show max x.toNat y.toNat = y.toNat by omega]
    apply Array.toList_inj.mp
    simp
    exact List.take_of_length_le (by simp)
  rw [ea] at e
  exact h n' h' ((F.push _).change hs z.2.1 z.2.2) (news_set (fun p hp => ⟨Heap.get?_push_of_some _ (N p hp).1, (N p hp).2⟩) a c hs e)
end
end Mine
end
section
open PySem PySem.W PySem.Calls PyProof.Rows
set_option maxRecDepth 100000
namespace Mine
section
variable {prog : Program} {w : World} {A : Around} {E : Value → Shared → Prop} {s : Shared} {h₀ : Heap} {L D : Addr} {m : Str → Option Value} {news news' : List (Addr × Obj)}
theorem append_own {vs : List Value} {n : Nat} {x : Value} {Q : Value → Shared → Prop} (F : Fr h₀ L s.heap m) (N : News h₀ L s.heap news) (U : Upd D (W.listOf vs.toArray n) (W.listOf (vs ++ [x]).toArray (n + 1)) news news') (hz : vs.length ≤ 2 ^ 20)
    (h : ∀ h', Fr h₀ L h' m → News h₀ L h' news' → Q .none { s with heap := h' }) : wpAny (model prog w) A (call (.builtin "list.append") [.ref D, x]) Q E s := by
  have e : (vs ++ [x]).toArray = vs.toArray.push x := by simp
  rw [e] at U
  exact append_K F N U h (by rw [sizeLine_eq, List.size_toArray]; omega)
theorem loadX_L {M : Model} {a : Addr} {cn : Str} {cs : Scope} {ccd : Value} {cl : List (Str × Addr)} {x : Str} {v : Value} {Q : Value → Shared → Prop} (F : Fr h₀ L s.heap m) (hv : m x = some v) (h : Q v s)
    (hk : cs.kind = .function := by rfl) (hx : (envX cn cs L a ccd cl).kindOf x = some .local := by rfl) :
    wpAny M A (loadName (envX cn cs L a ccd cl) x) Q E s := wpAny_loadName_local hk hx F.ns hv h
end
end Mine
end
section
open PySem PySem.W PySem.Calls PyProof.Rows
set_option maxRecDepth 100000
namespace Mine
abbrev okS (xs : List Str) : Prop := ∀ x ∈ xs, PyData.strOk x = true
theorem strs_canLay : ∀ {xs : List Str}, okS xs → PyData.canLayAll0 (xs.map PyData.str) = true
  | [], _ => by simp [PyData.canLayAll0]
  | x :: r, h => by
    have h1 := strs_canLay (xs := r) fun y hy => h y (List.mem_cons_of_mem _ hy)
    have h2 := h x List.mem_cons_self
    simp only [List.map_cons, PyData.canLayAll0, PyData.canLay0, h1, h2, Bool.and_self]
theorem strs_depth : ∀ xs : List Str, PyData.depthAll (xs.map PyData.str) = 0
  | [] => by simp [PyData.depthAll]
  | _ :: r => by simp [PyData.depthAll, PyData.depth, strs_depth r]
theorem strs_shaped {xs : List Str} (h : okS xs) : SeqAt.shaped (.list (xs.map PyData.str)) = true := by
  simp [SeqAt.shaped, PyData.canLay0, PyData.depth, strs_canLay h, strs_depth]
theorem strs_eqv : ∀ xs ys : List Str, PyData.eqvAll (xs.map PyData.str) (ys.map PyData.str) = decide (xs = ys)
  | [], [] => by simp [PyData.eqvAll]
  | [], _ :: _ => by simp [PyData.eqvAll]
  | _ :: _, [] => by simp [PyData.eqvAll]
  | a :: r, b :: q => by
    simp only [List.map_cons, PyData.eqvAll, PyData.eqv, strs_eqv r q]
    by_cases h : a = b <;> by_cases h' : r = q <;> simp [h, h']
theorem reads_strs {h : Heap} {a : Addr} {vs : List Value} {xs : List Str} (hl : h.IsList a vs.toArray) (hi : StrsAre vs xs) : Reads h (.ref a) (.list (xs.map PyData.str)) [a] := by
  obtain ⟨o, ho, hc, n, hd⟩ := hl
  exact Reads.list ho hc hd (by simpa using hi.reads h)
section
variable {prog : Program} {w : World} {A : Around} {E : Value → Shared → Prop} {s : Shared} {h₀ : Heap} {L : Addr} {m : Str → Option Value} {news : List (Addr × Obj)}
theorem eq_strsK {a b : Addr} {vs us : List Value} {xs ys : List Str} {Q : Value → Shared → Prop} (hl : s.heap.IsList a vs.toArray) (hi : StrsAre vs xs) (hl' : s.heap.IsList b us.toArray) (hi' : StrsAre us ys) (o1 : okS xs) (o2 : okS ys) (hu : A.units + 64 < cLine)
    (h : Q (.bool (decide (xs = ys))) s) : wpAny (model prog w) A (compareOp .Eq (.ref a) (.ref b)) Q E s :=
  eq_dataH (reads_strs hl hi) (reads_strs hl' hi') (strs_shaped o1) (strs_shaped o2) hu (by simp only [PyData.eqv]; rw [strs_eqv]; exact h)
theorem ne_strsK {a b : Addr} {vs us : List Value} {xs ys : List Str} {Q : Value → Shared → Prop} (hl : s.heap.IsList a vs.toArray) (hi : StrsAre vs xs) (hl' : s.heap.IsList b us.toArray) (hi' : StrsAre us ys) (o1 : okS xs) (o2 : okS ys) (hu : A.units + 64 < cLine)
    (h : Q (.bool (!decide (xs = ys))) s) : wpAny (model prog w) A (compareOp .NotEq (.ref a) (.ref b)) Q E s :=
  ne_dataH (reads_strs hl hi) (reads_strs hl' hi') (strs_shaped o1) (strs_shaped o2) hu (by simp only [PyData.eqv]; rw [strs_eqv]; exact h)

/-- a slice of a list -/
theorem slice_K {value slice : PySem.Expr} {l : Addr} {vs : List Value} {vl vu : Value} {lo hi : Option Int} {tk : Nat} {hp : Heap} {Q : Value → Shared → Prop} (F : Fr h₀ L hp m) (N : News h₀ L hp news) (hl : hp.IsList l vs.toArray) (pl : IsPart vl lo) (pu : IsPart vu hi) (hz : vs.length ≤ 2 ^ 20)
    (h : ∀ D h', Fr h₀ L h' m → News h₀ L h' ((D, W.listOf (kms_pick vs lo hi).toArray 0) :: news) → (∀ p ∈ news, p.1 < D) → Q (.ref D) { s with heap := h', toks := tk })
    (hs : subscripted slice false (.ref l) (.ref hp.objs.size) = operate [.ref hp.objs.size, .ref l] (getItem (.ref l) (.ref hp.objs.size)) := by with_unfolding_all rfl) (ht : ∀ r, letTemporaryGo value (.ref l) r = pure () := by intro _; with_unfolding_all rfl) :
    wpAny (model prog w) A (subscriptTail value slice (.ref l) (.ref hp.objs.size)) Q E { s with heap := hp.push (sliceO vl vu), toks := tk } := by
  refine kmk_slice (s := { s with heap := hp, toks := tk }) F N hl pl pu (fun D h' F' N' l1 => h D h' F' ?_ l1) hs ht (by rw [sizeLine_eq, List.size_toArray]; omega)
  rw [kms_pick_eq] at N'
  exact N'
theorem pick_to {vs : List Value} {k : Int} (h0 : 0 ≤ k) : kms_pick vs none (some k) = vs.take k.toNat := by
  unfold kms_pick kms_lo kms_hi
  dsimp only
  rw [if_neg (by omega), List.drop_zero, Nat.sub_zero]
  by_cases h : k.toNat ≤ vs.length
  · rw [Nat.min_eq_left h]
  · rw [Nat.min_eq_right (by omega), List.take_length, List.take_of_length_le (by omega)]
theorem pick_of {vs : List Value} {j k : Int} (h0 : 0 ≤ j) (hk : 0 ≤ k) : kms_pick vs (some j) (some k) = (vs.take k.toNat).drop j.toNat := by
  unfold kms_pick kms_lo kms_hi
  dsimp only
  rw [if_neg (by omega), if_neg (by omega), List.drop_take]
  by_cases h : k.toNat ≤ vs.length
  · rw [Nat.min_eq_left h]
    by_cases h' : j.toNat ≤ vs.length
    · rw [Nat.min_eq_left h']
    · rw [Nat.min_eq_right (by omega), List.drop_of_length_le (Nat.le_refl _), List.drop_of_length_le (by omega)]
      simp
  · rw [Nat.min_eq_right (by omega)]
    by_cases h' : j.toNat ≤ vs.length
    · rw [Nat.min_eq_left h', List.take_of_length_le (i := vs.length - j.toNat) (by simp), List.take_of_length_le (by rw [List.length_drop]; omega)]
    · rw [Nat.min_eq_right (by omega), List.drop_of_length_le (Nat.le_refl _), List.drop_of_length_le (by omega)]
      simp
theorem pick_from {vs : List Value} {j : Int} (h0 : 0 ≤ j) : kms_pick vs (some j) none = vs.drop j.toNat := by
  unfold kms_pick kms_lo kms_hi
  dsimp only
  rw [if_neg (by omega)]
  by_cases h' : j.toNat ≤ vs.length
  · rw [Nat.min_eq_left h', List.take_of_length_le (by rw [List.length_drop]; omega)]
  · rw [Nat.min_eq_right (by omega), List.drop_of_length_le (Nat.le_refl _), List.drop_of_length_le (by omega)]
    simp
end
end Mine
end
section
open PySem PySem.W PySem.Calls PyProof.Rows
set_option maxRecDepth 100000
namespace Mine
section
variable {M : Model} {A : Around} {E : Value → Shared → Prop} {s : Shared} {K : Frag} {h₀ : Heap} {L C : Addr} {m mg mb : Str → Option Value} {scope : Scope} {cl : List (Str × Addr)} {env : Env} {p : Program} {loose : List Str}
  {x : Str} {pos : Pos} {v : Value} {Q : Value → Shared → Prop}
theorem ldT_global (F : Fr h₀ L s.heap m) (X : K.In h₀) (T : TopRead p loose mg mb h₀) (e : nsIn K mainGlobals x = some (some v)) (h : Q v s) (hg : env.globals = mainGlobals := by rfl)
    (hk : (compEnvC scope cl C env).scope.kind = .function := by rfl) (hx : (compEnvC scope cl C env).kindOf x = some .globalImplicit := by rfl) (hd : (x == ("__debug__" : Str)) = false := by decide) :
    wpAny M A (eval (.Name x pos) (compEnvC scope cl C env)) Q E s :=
  Name_function_global hk hx (loadGlobal_global (env := compEnvC scope cl C env) (show s.heap.Ns env.globals mg from hg ▸ T.g.keeps F.keep) (mg_of X T.g e) h) hd
theorem ldT_built (F : Fr h₀ L s.heap m) (X : K.In h₀) (T : TopRead p loose mg mb h₀) (e : nsIn K mainGlobals x = some none) (hv : bootBuiltins x = some v) (hn : x ≠ "__name__") (h : Q v s) (hg : env.globals = mainGlobals := by rfl) (hb : env.builtins = builtinsNs := by rfl)
    (hk : (compEnvC scope cl C env).scope.kind = .function := by rfl) (hx : (compEnvC scope cl C env).kindOf x = some .globalImplicit := by rfl) (hd : (x == ("__debug__" : Str)) = false := by decide) :
    wpAny M A (eval (.Name x pos) (compEnvC scope cl C env)) Q E s :=
  Name_function_global hk hx (loadGlobal_builtin (env := compEnvC scope cl C env) (show s.heap.Ns env.globals mg from hg ▸ T.g.keeps F.keep) (mg_none_of X T.g e) (show s.heap.Ns env.builtins mb from hb ▸ T.b.keeps F.keep) ((T.builtins x hn).trans hv) h) hd
end
end Mine
end
section
open PySem PySem.W PySem.Calls PyProof.Rows
set_option maxRecDepth 100000
namespace Mine
section
variable {prog : Program} {w : World} {A : Around} {E : Value → Shared → Prop} {s : Shared} {h₀ : Heap} {L D : Addr} {m : Str → Option Value} {news pre post : List (Addr × Obj)}
theorem method_K {name : Str} {id : String} {pl : Sem Bool} {l : Addr} {its : Array Value} {n : Nat} {Q : Value × List Value → Shared → Prop} (ho : s.heap.get? l = some (W.listOf its n)) (slot : Slot "list" name id) (hty : typeOf (.builtin id) = pure (.type "method_descriptor"))
    (h : Q (.builtin id, [.ref l]) s) : wpAny (model prog w) A (getMethod (.ref l) name pl) Q E s :=
  getMethod_list_of slot hty ⟨_, ho, rfl, n, rfl⟩ ⟨_, ho, rfl⟩ h
theorem ints_at {k : Int} : ∀ {vs : List Value} {ns : List Int}, IntsAre vs ns → ∀ (j : Nat) (hj : j < vs.length), isInt k vs[j] = (ns.getD j 0 == k)
  | _, _, .cons n t _, 0, _ => rfl
  | _, _, .cons n t h, j + 1, hj => ints_at h j (Nat.lt_of_succ_lt_succ hj)
theorem strs_at {k : Str} : ∀ {vs : List Value} {ns : List Str}, StrsAre vs ns → ∀ (j : Nat) (hj : j < vs.length), isStrOf k vs[j] = (ns.getD j Str.empty == k)
  | _, _, .cons n t _, 0, _ => rfl
  | _, _, .cons n t h, j + 1, hj => strs_at h j (Nat.lt_of_succ_lt_succ hj)
theorem index_ints {l : Addr} {vs : List Value} {ns : List Int} {n : Nat} {k : Int} {t : Tok} {Q : Value → Shared → Prop} (ho : s.heap.get? l = some (W.listOf vs.toArray n)) (hi : IntsAre vs ns) (hk : k ∈ ns) (hz : vs.length ≤ 2 ^ 20)
    (h : Q (.int (ns.idxOf k : Nat) s.toks) { s with toks := s.toks + 1 }) : wpAny (model prog w) A (call (.builtin "list.index") [.ref l, .int k t]) Q E s := by
  have hlen := hi.length
  have hj : ns.idxOf k < ns.length := List.idxOf_lt_length_of_mem hk
  refine call_meets PySem.F.slot_list_index ⟨_, ho, rfl⟩ PySem.F.entry_list_index (PySem.F.args_list_index_2 _ _)
    (MeetsSeq.list_index l vs.toArray n (.int k t) (isInt k) (fun y hy => eq_isInt k t hi y (by simpa using hy)) (ns.idxOf k) (by rw [List.size_toArray]; omega) (by omega) ?_ ?_) ⟨ho, h⟩
  · rw [List.getElem_toArray, ints_at hi, List.getD_eq_getElem?_getD, List.getElem?_eq_getElem hj, Option.getD_some, List.getElem_idxOf]
    exact beq_self_eq_true k
  · intro q hq hlt
    rw [List.getElem_toArray, ints_at hi, List.getD_eq_getElem?_getD, List.getElem?_eq_getElem (by omega), Option.getD_some]
    exact beq_eq_false_iff_ne.mpr (List.not_of_lt_findIdx (p := (· == k)) (xs := ns) hlt |> fun z => by simpa using z)
theorem index_strs {l : Addr} {vs : List Value} {xs : List Str} {n : Nat} {k : Str} {t : Tok} {Q : Value → Shared → Prop} (ho : s.heap.get? l = some (W.listOf vs.toArray n)) (hi : StrsAre vs xs) (j : Nat) (hj : xs[j]? = some k) (hno : ∀ i, i < j → (xs.getD i Str.empty == k) = false) (hz : vs.length ≤ 2 ^ 20)
    (h : Q (.int (j : Nat) s.toks) { s with toks := s.toks + 1 }) : wpAny (model prog w) A (call (.builtin "list.index") [.ref l, .str k t]) Q E s := by
  have hlen := hi.length
  have hj' : j < xs.length := by
    by_cases q : j < xs.length
    · exact q
    · rw [List.getElem?_eq_none (by omega)] at hj; cases hj
  refine call_meets PySem.F.slot_list_index ⟨_, ho, rfl⟩ PySem.F.entry_list_index (PySem.F.args_list_index_2 _ _)
    (MeetsSeq.list_index l vs.toArray n (.str k t) (isStrOf k) (fun y hy => eq_isStrOf k t hi y (by simpa using hy)) j (by rw [List.size_toArray]; omega) (by omega) ?_ ?_) ⟨ho, h⟩
  · rw [List.getElem_toArray, strs_at hi, List.getD_eq_getElem?_getD, hj, Option.getD_some]
    exact beq_self_eq_true k
  · intro q hq hlt
    rw [List.getElem_toArray, strs_at hi]
    exact hno q hlt
theorem del_K {vs : List Value} {n : Nat} {i : Int} {u : Tok} {Q : Unit → Shared → Prop} (F : Fr h₀ L s.heap m) (N : News h₀ L s.heap (pre ++ (D, W.listOf vs.toArray n) :: post)) (a : ∀ p ∈ pre, p.1 ≠ D) (c : ∀ p ∈ post, p.1 ≠ D) (h0 : 0 ≤ i) (h1 : i < (vs.length : Int)) (hz : vs.length ≤ 2 ^ 20)
    (h : ∀ h', Fr h₀ L h' m → News h₀ L h' (pre ++ (D, W.listOf (vs.eraseIdx i.toNat).toArray (n + 1)) :: post) → Q () { s with heap := h' }) :
    wpAny (model prog w) A (delItem (.ref D) (.int i u)) Q E s := by
  have z := N (D, W.listOf vs.toArray n) (List.mem_append.mpr (.inr (.head _)))
  refine delItem_at (k := i.toNat) z.1 ?_ ?_ (fun h' hs e => h h' (F.change hs z.2.1 z.2.2) (news_set N a c hs e)) (by rw [sizeLine_eq, List.size_toArray]; omega)
  · unfold Builtin.List.listFitsIndex
    rw [Bool.and_eq_true, decide_eq_true_eq, decide_eq_true_eq]
    omega
  · simp [seqIndex?, show ¬ i < 0 by omega, h0, h1]
theorem listcopy_K {l : Addr} {vs : List Value} {Q : Value → Shared → Prop} (F : Fr h₀ L s.heap m) (N : News h₀ L s.heap news) (hl : s.heap.IsList l vs.toArray) (hz : vs.length ≤ 2 ^ 20)
    (h : ∀ D c h', Fr h₀ L h' m → News h₀ L h' ((D, W.listOf vs.toArray c) :: news) → (∀ p ∈ news, p.1 < D) → Q (.ref D) { s with heap := h' }) : wpAny (model prog w) A (call (.type "list") [.ref l]) Q E s := by
  obtain ⟨o, ho, hc, n, hd⟩ := hl
  refine call_list_seq l (.inl rfl) ho hc hd (fun h' c' hk e => ?_) (by rw [sizeLine_eq, List.size_toArray]; omega)
  have hn : s.heap.get? s.heap.objs.size = none := by
    cases q : s.heap.get? s.heap.objs.size with
    | none => rfl
    | some o' => exact absurd (Heap.lt_size q) (Nat.lt_irrefl _)
  exact h _ c' h' (F.keeps hk) (news_add F (N.grown hk) e hn) fun p hp => Heap.lt_size (N p hp).1
end
end Mine
end
section
namespace Mine
section
variable {α : Type} [DecidableEq α]

/-- k is the length of a shorter beginning of the first j that ends them -/
def isB (w : List α) (j k : Nat) : Bool := decide (w.take k = (w.take j).drop (j - k))

def lb (w : List α) (j : Nat) : Nat := ((List.range j).filter (isB w j)).foldr max 0

theorem foldr_max_ge : ∀ (l : List Nat) (x : Nat), x ∈ l → x ≤ l.foldr max 0
  | a :: r, x, h => by
    simp only [List.foldr_cons]
    rcases List.mem_cons.mp h with rfl | h
    · exact Nat.le_max_left _ _
    · exact Nat.le_trans (foldr_max_ge r x h) (Nat.le_max_right _ _)
theorem foldr_max_mem : ∀ (l : List Nat), l ≠ [] → l.foldr max 0 ∈ l
  | [a], _ => by simp
  | a :: b :: r, _ => by
    have ih := foldr_max_mem (b :: r) (by simp)
    show max a ((b :: r).foldr max 0) ∈ _
    by_cases h : a ≤ (b :: r).foldr max 0
    · rw [Nat.max_eq_right h]; exact List.mem_cons_of_mem _ ih
    · rw [Nat.max_eq_left (by omega)]; exact List.mem_cons_self

theorem isB_zero (w : List α) (j : Nat) : isB w j 0 = true := by
  simp [isB, List.drop_of_length_le (List.length_take_le j w)]

theorem lb_mem (w : List α) {j : Nat} (hj : 0 < j) : lb w j < j ∧ isB w j (lb w j) = true := by
  have h0 : 0 ∈ (List.range j).filter (isB w j) := by simp [hj, isB_zero]
  have := foldr_max_mem ((List.range j).filter (isB w j)) (by intro e; rw [e] at h0; cases h0)
  rw [List.mem_filter, List.mem_range] at this
  exact this
theorem lb_ge (w : List α) {j k : Nat} (hk : k < j) (h : isB w j k = true) : k ≤ lb w j :=
  foldr_max_ge _ _ (by rw [List.mem_filter, List.mem_range]; exact ⟨hk, h⟩)
theorem lb_eq {w : List α} {j k : Nat} (hk : k < j) (h : isB w j k = true) (hm : ∀ b, b < j → isB w j b = true → b ≤ k) : lb w j = k := by
  have h1 := lb_mem w (j := j) (by omega)
  exact Nat.le_antisymm (hm _ h1.1 h1.2) (lb_ge w hk h)

/-- by places -/
theorem isB_iff {w : List α} {j k : Nat} (hj : j ≤ w.length) (hk : k ≤ j) : isB w j k = true ↔ ∀ i, i < k → w[i]? = w[j - k + i]? := by
  unfold isB
  rw [decide_eq_true_eq]
  constructor
  · intro e i hi
    have h1 : (w.take k)[i]? = ((w.take j).drop (j - k))[i]? := by rw [e]
    rw [List.getElem?_take, if_pos hi, List.getElem?_drop, List.getElem?_take, if_pos (by omega)] at h1
    exact h1
  · intro h
    apply List.ext_getElem?
    intro i
    rw [List.getElem?_take, List.getElem?_drop, List.getElem?_take]
    by_cases hi : i < k
    · rw [if_pos hi, if_pos (by omega)]; exact h i hi
    · rw [if_neg hi, if_neg (by omega)]

theorem isB_trans {w : List α} {j b c : Nat} (hj : j ≤ w.length) (hb : b ≤ j) (hc : c ≤ b) (h1 : isB w j b = true) (h2 : isB w b c = true) : isB w j c = true := by
  rw [isB_iff hj (by omega)]
  rw [isB_iff hj hb] at h1
  rw [isB_iff (by omega) hc] at h2
  intro i hi
  rw [h2 i hi, h1 (b - c + i) (by omega)]
  congr 1; omega
theorem isB_sub {w : List α} {j b c : Nat} (hj : j ≤ w.length) (hb : b ≤ j) (hc : c ≤ b) (h1 : isB w j b = true) (h2 : isB w j c = true) : isB w b c = true := by
  rw [isB_iff hj hb] at h1
  rw [isB_iff hj (by omega)] at h2
  rw [isB_iff (by omega) hc]
  intro i hi
  rw [h2 i hi, h1 (b - c + i) (by omega)]
  congr 1; omega
theorem isB_succ {w : List α} {j b : Nat} (hj : j < w.length) (hb : b < j) : isB w (j + 1) (b + 1) = true ↔ isB w j b = true ∧ w[b]? = w[j]? := by
  rw [isB_iff (by omega) (by omega), isB_iff (by omega) (by omega)]
  constructor
  · intro h
    refine ⟨fun i hi => ?_, ?_⟩
    · rw [h i (by omega)]; congr 1; omega
    · rw [h b (by omega)]; congr 1; omega
  · rintro ⟨h1, h2⟩ i hi
    by_cases e : i = b
    · subst e; rw [h2]; congr 1; omega
    · rw [h1 i (by omega)]; congr 1; omega

/-- what holds of the place that the inner loop looks at -/
structure Cand (w : List α) (i idx : Nat) : Prop where
  lt : idx < i
  b : isB w i idx = true
  top : ∀ b, b + 1 < i + 1 → isB w (i + 1) (b + 1) = true → b ≤ idx

theorem Cand.start {w : List α} {i : Nat} (hi : 0 < i) (hl : i < w.length) : Cand w i (lb w i) := by
  have h := lb_mem w hi
  exact ⟨h.1, h.2, fun b hb hB => lb_ge w (by omega) ((isB_succ hl (by omega)).mp hB).1⟩
theorem Cand.down {w : List α} {i idx : Nat} (hl : i < w.length) (c : Cand w i idx) (h0 : idx ≠ 0) (hne : w[i]? ≠ w[idx]?) : Cand w i (lb w idx) := by
  have h := lb_mem w (j := idx) (by omega)
  have := c.lt
  refine ⟨by omega, isB_trans (by omega) (by omega) (by omega) c.b h.2, fun b hb hB => ?_⟩
  have h1 := c.top b hb hB
  obtain ⟨h2, h3⟩ := (isB_succ hl (by omega)).mp hB
  have hne' : b ≠ idx := by rintro rfl; exact hne h3.symm
  exact lb_ge w (by omega) (isB_sub (by omega) (by omega) (by omega) c.b h2)
theorem Cand.stop {w : List α} {i : Nat} (hl : i < w.length) (c : Cand w i 0) (hne : w[i]? ≠ w[0]?) : lb w (i + 1) = 0 := by
  refine lb_eq (by omega) (isB_zero _ _) fun b hb hB => ?_
  cases b with
  | zero => exact Nat.le_refl _
  | succ b =>
    have h1 := c.top b (by omega) hB
    have : b = 0 := by omega
    subst this
    obtain ⟨_, h3⟩ := (isB_succ hl (by omega)).mp hB
    exact absurd h3.symm hne
theorem Cand.found {w : List α} {i idx : Nat} (hl : i < w.length) (c : Cand w i idx) (he : w[i]? = w[idx]?) : lb w (i + 1) = idx + 1 := by
  have := c.lt
  refine lb_eq (by omega) ((isB_succ hl this).mpr ⟨c.b, he.symm⟩) fun b hb hB => ?_
  cases b with
  | zero => omega
  | succ b => have := c.top b (by omega) hB; omega
theorem lb_one (w : List α) : lb w 1 = 0 := by
  have := (lb_mem w (j := 1) (by omega)).1
  omega

/-- the table as far as it stands -/
def tabI (w : List α) (k : Nat) : List Int := (List.range w.length).map fun j => if j < k then (lb w (j + 1) : Int) else 0
theorem tabI_length (w : List α) (k : Nat) : (tabI w k).length = w.length := by simp [tabI]
theorem tabI_get {w : List α} {k j : Nat} (hj : j < w.length) : (tabI w k)[j]? = some (if j < k then (lb w (j + 1) : Int) else 0) := by
  simp [tabI, hj]
theorem tabI_start (w : List α) : tabI w 1 = List.replicate w.length 0 := by
  apply List.ext_getElem?
  intro j
  by_cases h : j < w.length
  · rw [tabI_get h, List.getElem?_replicate, if_pos h]
    by_cases h1 : j < 1
    · have : j = 0 := by omega
      subst this; simp [lb_one]
    · rw [if_neg h1]
  · rw [List.getElem?_eq_none (by simp [tabI]; omega), List.getElem?_eq_none (by simp; omega)]
theorem tabI_set {w : List α} {k : Nat} (hk : k < w.length) {v : Int} (hv : v = lb w (k + 1)) : (tabI w k).set k v = tabI w (k + 1) := by
  apply List.ext_getElem?
  intro j
  rw [List.getElem?_set]
  by_cases h : j < w.length
  · rw [tabI_get h, tabI_get h]
    by_cases e : k = j
    · subst e; rw [if_pos rfl, if_pos (by rw [tabI_length]; exact h), if_pos (by omega), hv]
    · rw [if_neg e]
      by_cases h1 : j < k
      · rw [if_pos h1, if_pos (by omega)]
      · rw [if_neg h1, if_neg (by omega)]
  · rw [List.getElem?_eq_none (l := tabI w k) (by rw [tabI_length]; omega), List.getElem?_eq_none (l := tabI w (k + 1)) (by rw [tabI_length]; omega)]
    split
    · rw [if_neg (by rw [tabI_length]; omega)]
    · rfl
theorem tabI_nil : tabI ([] : List α) 1 = [] := rfl
/-- the whole table -/
def tabF (w : List α) : List Int := (List.range w.length).map fun j => (lb w (j + 1) : Int)
theorem tabI_full {w : List α} {k : Nat} (hk : w.length ≤ k) : tabI w k = tabF w := by
  apply List.map_congr_left
  intro j hj
  rw [List.mem_range] at hj
  rw [if_pos (by omega)]
end
end Mine
end
open PySem PySem.W PySem.Calls PyProof.Rows Mine
local macro_rules | `(tactic| walk_at $s:str) => `(tactic| k_extra $s)
local macro_rules | `(tactic| k_all) => `(tactic| first | exact List.forall_mem_nil _ | (refine' List.forall_mem_cons.mpr ⟨?a, ?b⟩; (case a => ((refine neN ?_); (try dsimp only); first | assumption | (refine Ne.symm ?_; assumption) | omega)); (case b => k_all)) | with_reducible assumption)
local macro_rules | `(tactic| k_upd) => `(tactic| first | (refine' Upd.head ?a; (case a => k_all)) | (refine' Upd.tail ?a ?b; (case a => ((refine neN ?_); (try dsimp only); first | assumption | (refine Ne.symm ?_; assumption) | omega)); (case b => k_upd)))
section
open PySem PySem.W PySem.Calls PyProof.Rows Mine
set_option Elab.async false
set_option maxRecDepth 100000
set_option maxHeartbeats 4000000
namespace Mine
structure IsEntry (w : World) (h : Heap) (x : Addr) (ags rls : List Value) : Prop where
  out : ∃ dx l1 l2 n1 n2 t1 t2 t3 t4, h.get? x = some (instObj 59 dx) ∧ h.get? dx = some (entryD w (.ref l1) (.ref l2) .none .none t1 t2 t3 t4) ∧ h.get? l1 = some (W.listOf ags.toArray n1) ∧ h.get? l2 = some (W.listOf rls.toArray n2)

/-- objects of h that g had not -/
def Fresh (g h : Heap) (fz : List (Addr × Obj)) : Prop := ∀ p ∈ fz, h.get? p.1 = some p.2 ∧ g.get? p.1 = none
theorem Fresh.news {h₀ g h : Heap} {L : Addr} {m : Str → Option Value} {fz news : List (Addr × Obj)} (f : Fresh g h fz) (F : Fr h₀ L g m) (N : News h₀ L h news) : News h₀ L h (fz ++ news) := by
  intro p hp
  rcases List.mem_append.mp hp with hp | hp
  · obtain ⟨a, b⟩ := f p hp
    refine ⟨a, fun q => ?_, ?_⟩
    · obtain ⟨oL, _, _, hL, _⟩ := F.ns
      rw [q, hL] at b; cases b
    · cases q : h₀.get? p.1 with
      | none => rfl
      | some o => rw [F.keep _ _ q] at b; cases b
  · exact N p hp
theorem Fresh.ne {g h : Heap} {fz : List (Addr × Obj)} (f : Fresh g h fz) {p : Addr × Obj} (hp : p ∈ fz) {a : Addr} {o : Obj} (e : g.get? a = some o) : p.1 ≠ a := fun q => by
  have := (f p hp).2
  rw [q, e] at this; cases this
theorem Fresh.of_news {h₀ h : Heap} {L : Addr} {news fz : List (Addr × Obj)} (N : News h₀ L h news) (hs : ∀ p ∈ fz, p ∈ news) : Fresh h₀ h fz := fun p hp => ⟨(N p (hs p hp)).1, (N p (hs p hp)).2.2⟩
theorem Fresh.four {h₀ h : Heap} {L : Addr} {news : List (Addr × Obj)} {a b c d : Addr × Obj} (N : News h₀ L h news) (ha : a ∈ news) (hb : b ∈ news) (hc : c ∈ news) (hd : d ∈ news) : Fresh h₀ h [a, b, c, d] := by
  refine Fresh.of_news N fun p hp => ?_
  simp only [List.mem_cons, List.not_mem_nil, or_false] at hp
  rcases hp with rfl | rfl | rfl | rfl <;> assumption
theorem Fresh.one {h₀ h : Heap} {L : Addr} {news : List (Addr × Obj)} {a : Addr × Obj} (N : News h₀ L h news) (ha : a ∈ news) : Fresh h₀ h [a] :=
  Fresh.of_news N fun p hp => List.mem_singleton.mp hp ▸ ha
theorem Fresh.five {h₀ h : Heap} {L : Addr} {news : List (Addr × Obj)} {a b c d e : Addr × Obj} (N : News h₀ L h news) (ha : a ∈ news) (hb : b ∈ news) (hc : c ∈ news) (hd : d ∈ news) (he : e ∈ news) : Fresh h₀ h [a, b, c, d, e] := by
  refine Fresh.of_news N fun p hp => ?_
  simp only [List.mem_cons, List.not_mem_nil, or_false] at hp
  rcases hp with rfl | rfl | rfl | rfl | rfl <;> assumption
structure IsEntryN (w : World) (g h : Heap) (x : Addr) (ags rls : List Value) : Prop where
  out : ∃ dx l1 l2 n1 n2 t1 t2 t3 t4, Fresh g h [(x, instObj 59 dx), (dx, entryD w (.ref l1) (.ref l2) .none .none t1 t2 t3 t4), (l1, W.listOf ags.toArray n1), (l2, W.listOf rls.toArray n2)]
theorem IsEntryN.to {w : World} {g h : Heap} {x : Addr} {ags rls : List Value} (e : IsEntryN w g h x ags rls) : IsEntry w h x ags rls := by
  obtain ⟨dx, l1, l2, n1, n2, t1, t2, t3, t4, f⟩ := e
  exact ⟨dx, l1, l2, n1, n2, t1, t2, t3, t4, (f _ (.head _)).1, (f _ (.tail _ (.head _))).1, (f _ (.tail _ (.tail _ (.head _)))).1, (f _ (.tail _ (.tail _ (.tail _ (.head _))))).1⟩
theorem instAt_ext {h₀ h : Heap} {x C dx : Addr} {od : Obj} {sl : Array (Option Value)} (I : W.InstAt h₀ x ⟨.ref C, some dx, .plain, sl⟩ C (some od)) (F : Ext h₀ h) : W.InstAt h x ⟨.ref C, some dx, .plain, sl⟩ C (some od) :=
  ⟨F _ _ I.at_, I.cls, I.no, F _ _ I.dict⟩
theorem instAt_keep {h₀ h : Heap} {L x C dx : Addr} {m : Str → Option Value} {od : Obj} {sl : Array (Option Value)} (I : W.InstAt h₀ x ⟨.ref C, some dx, .plain, sl⟩ C (some od)) (F : Fr h₀ L h m) : W.InstAt h x ⟨.ref C, some dx, .plain, sl⟩ C (some od) := instAt_ext I F.keep
theorem instAt_mk {h : Heap} {x C dx : Addr} {od : Obj} (h1 : h.get? x = some (instObj C dx)) (h2 : h.get? dx = some od) : W.InstAt h x (instObj C dx) C (some od) := ⟨h1, rfl, rfl, h2⟩

local macro_rules | `(tactic| k_inst) => `(tactic| exact instAt_keep (by assumption) (by k_asm))

theorem merge_spec (w : World) (mg mb : Str → Option Value) : PySem.Challenge.rw_wn0034_01.row.prog = pr1 → ∀ s : Shared, (hd1.heap_39 w.params).In s.heap → TR1 mg mb s.heap →
    ∀ (x y : Addr) (a1 r1 a2 r2 : List Value) (as1 as2 : List Str), IsEntry w s.heap x a1 r1 → IsEntry w s.heap y a2 r2 → StrsAre a1 as1 → StrsAre a2 as2 → a1.length ≤ 2 ^ 20 → a2.length + 1 < scanBound → r1.length + r2.length ≤ 2 ^ 20 →
    Fn 20 pr1 w 70 [.ref x, .ref y] (fun v h => ∃ z, v = .ref z ∧ IsEntryN w s.heap h z (a1.filter (keepS fun k => decide (k ∈ as2))) (r1 ++ r2)) s := by
  k_with_none
  k_with "call ref" => refine Halt.out ?_
  k_with "call type:set" => refine Halt.out ?_
  k_with "call type:set cons nil" => refine Halt.out ?_
  k_with "call type:filter" => refine Halt.out ?_
  k_with "call type:filter cons nil" => refine Halt.out ?_
  k_with "call type:list cons nil" => refine Halt.out ?_
  k_with "eval Name" => (k_here; k_dflt (refine nameX_L (by k_asm) (by assumption) ?_; k_whole))
  k_fill
  intro _ s X T x y a1 r1 a2 r2 as1 as2 ex ey hs1 hs2 hb1 hb2 hb3
  k_dflt (refine' Fn.of_body (binds := [(Str.ofString "e1", .ref x), (Str.ofString "e2", .ref y)]) (K := hd1.heap_39 w.params) X T.nolimit ?k1 ?k2 ?k3 ?k4 ?_ ?c1 ?c2 ?c3 ?c4)
  case k1 => k_is
  case k2 => k_is
  case k3 => exact BindsTo.of_eq rfl
  case k4 => exact locs rfl
  case c1 => exact rfl
  case c2 => exact rfl
  case c3 => exact rfl
  case c4 => decide
  intro dp un fr gd L h₁ hdp hun F
  have N : News s.heap L h₁ [] := News.nil
  obtain ⟨dx, lx1, lx2, nx1, nx2, tx1, tx2, tx3, tx4, ex1, ex2, ex3, ex4⟩ := ex
  obtain ⟨dy, ly1, ly2, ny1, ny2, ty1, ty2, ty3, ty4, ey1, ey2, ey3, ey4⟩ := ey
  have Ix : InstAt s.heap x (instObj 59 dx) 59 (some (entryD w (.ref lx1) (.ref lx2) .none .none tx1 tx2 tx3 tx4)) := instAt_mk ex1 ex2
  have Iy : InstAt s.heap y (instObj 59 dy) 59 (some (entryD w (.ref ly1) (.ref ly2) .none .none ty1 ty2 ty3 ty4)) := instAt_mk ey1 ey2
  (try dsimp only)
  k_unmd
  k_fold
  k_steps
  refine ⟨?_⟩
  refine entry_new w rfl mg mb _ _ _ _ _ _ _ rfl ?_ ?_ (by assumption) (by assumption) X T ?_
  · simp only; omega
  · simp only; omega
  intro z dz l1 l2 h2 tk2 t1 t2 t3 t4 F2 N2 hl0 hl1 hl2 hl3
  k_lt2 hl1
  k_lt2 hl2
  k_lt2 hl3
  dsimp only
  k_steps
  refine ⟨?_⟩
  rename Fr _ _ _ _ => F3
  rename News _ _ _ _ => N3
  refine set_K rfl ((listO_is ey3).at fun o e => F3.keep _ o e) hs2 hb2 fun h4 tk4 S4 n4 hk4 hS4 => ?_
  refine contains_K hS4 fun h5 tk5 mw5 hk5 hm5 => ?_
  have F5 := (F3.keeps hk4).keeps hk5
  have N5 := (N3.grown hk4).grown hk5
  have hS5 := SetOf.keep hS4 fun o e => hk5 _ o e
  clear F3 N3
  dsimp only
  k_steps
  refine ⟨?_⟩
  refine filter_K ((listO_is ex3).at fun o e => F5.keep _ o e) hm5 hS5 fun h6 tk6 Fo I hk6 hI6 hf6 => ?_
  k_steps
  refine ⟨?_⟩
  refine list_filter_K rfl hs1 hb1 hf6 hk6 hI6 fun h7 tk7 D c7 hk7 hD7 hlt7 hn7 => ?_
  have F7 := F5.keeps hk7
  have N7 := news_add F5 (N5.grown hk7) hD7 hn7
  have d1 := ltN (hlt7 z _ (N5.get (.head _)))
  have d2 := ltN (hlt7 dz _ (N5.get (.tail _ (.head _))))
  have d3 := ltN (hlt7 l1 _ (N5.get (.tail _ (.tail _ (.head _)))))
  have d4 := ltN (hlt7 l2 _ (N5.get (.tail _ (.tail _ (.tail _ (.head _))))))
  clear F5 N5
  k_steps
  rename Fr _ _ _ _ => F8
  rename News _ _ _ _ => N8
  refine add_K F8 N8 ((listO_is ex4).at fun o e => F8.keep _ o e) ((listO_is ey4).at fun o e => F8.keep _ o e) (by omega) fun D2 h9 F9 N9 lt9 => ?_
  clear F8 N8
  k_lt lt9
  k_steps
  rename Fr _ _ _ _ => FE
  rename News _ _ _ _ => NE
  exact Back.intro FE ⟨z, rfl, ⟨dz, D, D2, c7, 0, _, _, _, _, Fresh.four NE (.tail _ (.tail _ (.head _))) (.tail _ (.tail _ (.tail _ (.head _)))) (.tail _ (.head _)) (.head _)⟩⟩
end Mine
end
section
open PySem PySem.W PySem.Calls PyProof.Rows Mine
set_option Elab.async false
set_option maxRecDepth 100000
set_option maxHeartbeats 4000000
namespace Mine

def ovJ (xs : List Str) (l : Addr) (i : Nat) (m : Str → Option Value) (nx : List (Addr × Obj)) : Prop :=
  ∃ D ts c, nx = [(D, W.listOf ts.toArray c)] ∧ IntsAre ts (tabI xs (i + 1)) ∧ m (Str.ofString "table") = some (.ref D) ∧ m (Str.ofString "prefix") = some (.ref l)
def ovW (xs : List Str) (l : Addr) (i : Nat) (ti : Tok) (I : Addr) (oI : Obj) (n : Nat) (m : Str → Option Value) (nx : List (Addr × Obj)) : Prop :=
  ∃ D ts c t, nx = [(D, W.listOf ts.toArray c), (I, oI)] ∧ D ≠ I ∧ IntsAre ts (tabI xs (i + 1)) ∧ m (Str.ofString "table") = some (.ref D) ∧ m (Str.ofString "prefix") = some (.ref l) ∧ m (Str.ofString "i") = some (.int (1 + i) ti) ∧
    m (Str.ofString "idx") = some (.int n t) ∧ Cand xs (i + 1) n
theorem tabI_getD {w : List Str} {k j : Nat} {z : Int} (hz : z.toNat = j) (hj : j < w.length) (hk : j < k) : (tabI w k).getD z.toNat 0 = ((lb w (j + 1) : Nat) : Int) := by
  rw [hz, List.getD_eq_getElem?_getD, tabI_get hj, if_pos hk]; rfl
theorem strs_get {xs : List Str} {i j : Int} {b : Bool} (h : (xs.getD i.toNat Str.empty != xs.getD j.toNat Str.empty) = b) (hi : i.toNat < xs.length) (hj : j.toNat < xs.length) : decide (xs[i.toNat]? ≠ xs[j.toNat]?) = b := by
  rw [← h, List.getD_eq_getElem?_getD, List.getD_eq_getElem?_getD, List.getElem?_eq_getElem hi, List.getElem?_eq_getElem hj]
  by_cases e : xs[i.toNat] = xs[j.toNat]
  · simp [e]
  · simp [e]

theorem overlap_spec (w : World) (mg mb : Str → Option Value) : PySem.Challenge.rw_wn0034_01.row.prog = pr1 → ∀ s : Shared, (hd1.heap_39 w.params).In s.heap → TR1 mg mb s.heap →
    ∀ (l : Addr) (vs : List Value) (xs : List Str), s.heap.IsList l vs.toArray → StrsAre vs xs → xs.length ≤ 2 ^ 20 →
    Fn 20 pr1 w 77 [.ref l] (fun v h => ∃ z ts n, v = .ref z ∧ h.get? z = some (W.listOf ts.toArray n) ∧ IntsAre ts (tabF xs)) s := by
  k_with_none
  k_with "call ref" => refine Halt.out ?_
  k_with "pyIter ref" => refine Halt.out ?_
  k_with "exec While Compare cons cons" => refine Halt.out ?_
  k_with "exec While Compare cons nil" => refine Halt.out ?_
  k_with "exec For Name Call cons nil" => k_dflt (refine wpAny_For ?_)
  k_with "eval Name" => (k_here; k_dflt (refine nameX_L (by k_asm) (by assumption) ?_; k_whole))
  k_fill
  intro _ s X T l vs xs hl hx hb
  k_dflt (refine' Fn.of_body (binds := [(Str.ofString "prefix", .ref l)]) (K := hd1.heap_39 w.params) X T.nolimit ?k1 ?k2 ?k3 ?k4 ?_ ?c1 ?c2 ?c3 ?c4)
  case k1 => k_is
  case k2 => k_is
  case k3 => exact BindsTo.of_eq rfl
  case k4 => exact locs rfl
  case c1 => exact rfl
  case c2 => exact rfl
  case c3 => exact rfl
  case c4 => decide
  intro dp un fr gd L h₁ hdp hun F
  have N : News s.heap L h₁ [] := News.nil
  (try dsimp only)
  k_unmd
  k_fold
  k_steps
  refine ⟨?_⟩
  rename IsRange _ _ _ _ _ _ _ _ => R1
  rename Fr _ _ _ _ => F1
  rename News _ _ _ _ => N1
  rename IntsAre _ _ => I1
  rename StrsAre _ _ => hx
  have hxl := hx.length
  replace N1 := fun p hp => N1 p (List.mem_cons.mpr (.inl (List.mem_singleton.mp hp)))
  k_dflt (refine For_range_J (n := xs.length - 1) (news := [_]) (old := []) (ovJ xs l) rfl R1 (small_one (by omega) (by omega) (by omega) (by omega)) ?_ F1 N1 ?_ ?_ ?_)
  · rw [rangeSize_one]; split <;> omega
  · exact ⟨_, _, _, rfl, by rw [tabI_start]; simpa using I1, rfl, rfl⟩
  · rintro i ti m₁ nx h tk I oI hi ⟨D, ts, c, rfl, I2, e1, e2⟩ hI hoff ⟨vs2, hoI⟩ F2 N2
    have ne2 := neN (hoff _ (.head _))
    have l2 := I2.length
    rw [tabI_length] at l2
    clear N1 F1 R1
    simp only [List.cons_append, List.nil_append] at N2
    k_unmd
    k_fold
    k_steps
    refine ⟨?_⟩
    rename Fr _ _ _ _ => F3
    rename News _ _ _ _ => N3
    simp only [tabI_getD (show (1 + ↑i - 1 : Int).toNat = i by omega) (show i < xs.length by omega) (show i < i + 1 by omega)] at F3
    have hil : i + 1 < xs.length := by omega
    k_dflt (refine While_J (ovW xs l i ti I oI) (lb xs (i + 1)) F3 N3 ⟨_, _, _, _, rfl, ne2, I2, e1, e2, rfl, rfl, Cand.start (by omega) hil⟩ ?_)
    clear F2 N2 F3 N3 I2 e1 e2 l2 ne2
    rintro n m₂ nx h2 tk2 ⟨D, ts, c, t, rfl, ne2, I2, e1, e2, e3, e4, hc⟩ F4 N4
    replace ne2 := neN ne2
    have l2 := I2.length
    rw [tabI_length] at l2
    have hlt := hc.lt
    k_unmd
    k_fold
    k_steps
    case _ =>
      rename Fr _ _ _ _ => F5
      rename News _ _ _ _ => N5
      rename IntsAre _ ((tabI _ _).set _ _) => I5
      rename (_ != _) = true => q1
      rename (n : Int) = 0 => q2
      have q3 := strs_get q1 (by omega) (by omega)
      have en : n = 0 := by omega
      subst en
      rw [decide_eq_true_eq, show (1 + ↑i : Int).toNat = i + 1 by omega, show (↑(0 : Nat) : Int).toNat = 0 by rfl] at q3
      dsimp only
      refine TurnEnd.n1 F5 N5 ne2 ⟨_, _, _, rfl, ?_, e1, e2⟩
      · rw [show (1 + ↑i : Int).toNat = i + 1 by omega, tabI_set (k := i + 1) hil (by rw [hc.stop hil q3]; rfl)] at I5
        rw [show (1 + ↑i : Int).toNat = i + 1 by omega]
        exact I5
    case _ =>
      rename Fr _ _ _ _ => F5
      rename News _ _ _ _ => N5
      rename (_ != _) = true => q1
      rename (n : Int) ≠ 0 => q2
      have q3 := strs_get q1 (by omega) (by omega)
      rw [decide_eq_true_eq, show (1 + ↑i : Int).toNat = i + 1 by omega, show (↑n : Int).toNat = n by omega] at q3
      rw [tabI_getD (show (↑n - 1 : Int).toNat = n - 1 by omega) (show n - 1 < xs.length by omega) (show n - 1 < i + 1 by omega), show n - 1 + 1 = n by omega] at F5
      dsimp only
      refine TurnEnd.w F5 N5 ⟨lb xs n, (lb_mem xs (by omega)).1, _, _, _, _, rfl, ne2, I2, e1, e2, e3, rfl, hc.down hil (by omega) q3⟩
    case _ =>
      rename Fr _ _ _ _ => F5
      rename News _ _ _ _ => N5
      rename IntsAre _ ((tabI _ _).set _ _) => I5
      rename (_ != _) = false => q1
      have q3 := strs_get q1 (by omega) (by omega)
      rw [decide_eq_false_iff_not, Classical.not_not, show (1 + ↑i : Int).toNat = i + 1 by omega, show (↑n : Int).toNat = n by omega] at q3
      dsimp only
      refine TurnEnd.n1 F5 N5 ne2 ⟨_, _, _, rfl, ?_, e1, e2⟩
      · rw [show (1 + ↑i : Int).toNat = i + 1 by omega, tabI_set (k := i + 1) hil (by rw [hc.found hil q3]; rfl)] at I5
        rw [show (1 + ↑i : Int).toNat = i + 1 by omega]
        exact I5
  · rintro m₁ nx h tk ⟨D, ts, c, rfl, I2, e1, e2⟩ F2 N2
    simp only [List.cons_append, List.nil_append] at N2
    rw [tabI_full (by omega)] at I2
    clear N1 F1 R1
    k_unmd
    k_fold
    k_steps
    dsimp only
    exact Back.intro F2 ⟨_, _, _, rfl, N2.get (.head _), I2⟩
end Mine
end
section
open PySem PySem.W PySem.Calls PyProof.Rows Mine
set_option Elab.async false
set_option maxRecDepth 100000
set_option maxHeartbeats 4000000
namespace Mine
theorem common_spec (w : World) (mg mb : Str → Option Value) : PySem.Challenge.rw_wn0034_01.row.prog = pr1 → ∀ s : Shared, (hd1.heap_39 w.params).In s.heap → TopRead hd1.view_39 (looseW hd1.view_39 []) mg mb s.heap →
    ∀ (x y : Int) (tx ty : Tok), 0 ≤ x → 0 ≤ y → Fn 2 pr1 w 120 [.int x tx, .int y ty] (fun v _ => ∃ t, v = .int (Int.gcd x y) t) s := by
  k_with_none
  k_with "exec While" => refine Halt.out ?_
  k_with "exec While Compare cons nil" => refine Halt.out ?_
  k_with "eval Name" => (k_here; k_dflt (refine nameX_L (by k_asm) (by assumption) ?_; k_whole))
  k_fill
  intro _ s X T x y tx ty hx hy
  k_dflt (refine' Fn.of_body (binds := [(Str.ofString "one", .int x tx), (Str.ofString "two", .int y ty)]) (K := hd1.heap_39 w.params) X T.nolimit ?k1 ?k2 ?k3 ?k4 ?_ ?c1 ?c2 ?c3 ?c4)
  case k1 => k_is
  case k2 => k_is
  case k3 => exact BindsTo.of_eq rfl
  case k4 => exact locs rfl
  case c1 => exact rfl
  case c2 => exact rfl
  case c3 => exact rfl
  case c4 => decide
  intro dp un fr gd L h₁ hdp hun F
  have N : News s.heap L h₁ [] := News.nil
  (try dsimp only)
  k_unmd
  k_fold
  k_steps
  refine ⟨?_⟩
  let J : Nat → (Str → Option Value) → List (Addr × Obj) → Prop := fun n m nx => nx = [] ∧ ∃ a b ta tb, m (Str.ofString "one") = some (.int a ta) ∧ m (Str.ofString "two") = some (.int b tb) ∧ 0 ≤ a ∧ 0 ≤ b ∧ Int.gcd a b = Int.gcd x y ∧ n = b.toNat
  refine While_J J y.toNat F N ⟨rfl, x, y, tx, ty, rfl, rfl, hx, hy, rfl, rfl⟩ ?_
  rintro n m₁ nx h tk ⟨rfl, a, b, ta, tb, h1, h2, ha, hb, hg, rfl⟩ F' N'
  k_steps
  case _ =>
    rename (b ≠ 0) => hb0
    have hbp : 0 < b := by omega
    have hf : a.fmod b = a % b := Int.fmod_eq_emod_of_nonneg a hb
    have h0 : 0 ≤ a % b := Int.emod_nonneg a hb0
    have h9 : a % b < b := Int.emod_lt_of_pos a hbp
    dsimp only
    refine TurnEnd.w (by assumption) News.nil ⟨(a.fmod b).toNat, ?_, rfl, b, a.fmod b, tb, _, rfl, rfl, hb, ?_, ?_, rfl⟩
    · rw [hf]; omega
    · rw [hf]; exact h0
    · rw [hf, ← hg]
      obtain ⟨n, rfl⟩ := Int.eq_ofNat_of_zero_le ha
      obtain ⟨k, rfl⟩ := Int.eq_ofNat_of_zero_le hb
      show Nat.gcd k (n % k) = Nat.gcd n k
      rw [Nat.gcd_comm n k, Nat.gcd_rec k n, Nat.gcd_comm]
  case _ =>
    rename (b = 0) => hb0
    dsimp only
    refine Back.intro F' ⟨ta, ?_⟩
    subst hb0
    rw [← hg, Int.gcd_zero_right, Int.natAbs_of_nonneg ha]
end Mine
end
section
open PySem PySem.W PySem.Calls PyProof.Rows Mine
set_option Elab.async false
set_option maxRecDepth 100000
set_option maxHeartbeats 4000000
namespace Mine

def ceJ (l : Addr) (m : Str → Option Value) (nx : List (Addr × Obj)) : Prop :=
  ∃ D ts ns c, nx = [(D, W.listOf ts.toArray c)] ∧ IntsAre ts ns ∧ ns.length = 4 ∧ m (Str.ofString "cells") = some (.ref D) ∧ m (Str.ofString "script") = some (.ref l)
theorem cells_spec (w : World) (mg mb : Str → Option Value) : PySem.Challenge.rw_wn0034_01.row.prog = pr1 → ∀ s : Shared, (hd1.heap_39 w.params).In s.heap → TR1 mg mb s.heap →
    ∀ (l : Addr) (vs : List Value) (xs : List Int), s.heap.IsList l vs.toArray → IntsAre vs xs → xs.length ≤ 63 →
    Fn 30 pr1 w 84 [.ref l] (fun v h => ∃ z ts ns n, v = .ref z ∧ Fresh s.heap h [(z, W.listOf ts.toArray n)] ∧ IntsAre ts ns ∧ ns.length = 4) s := by
  k_with_none
  k_with "call ref" => refine Halt.out ?_
  k_with "pyIter ref" => refine Halt.out ?_
  k_with "exec For Name Call cons nil" => k_dflt (refine wpAny_For ?_)
  k_with "eval Name" => (k_here; k_dflt (refine nameX_L (by k_asm) (by assumption) ?_; k_whole))
  k_fill
  intro _ s X T l vs xs hl hx hb
  k_dflt (refine' Fn.of_body (binds := [(Str.ofString "script", .ref l)]) (K := hd1.heap_39 w.params) X T.nolimit ?k1 ?k2 ?k3 ?k4 ?_ ?c1 ?c2 ?c3 ?c4)
  case k1 => k_is
  case k2 => k_is
  case k3 => exact BindsTo.of_eq rfl
  case k4 => exact locs rfl
  case c1 => exact rfl
  case c2 => exact rfl
  case c3 => exact rfl
  case c4 => decide
  intro dp un fr gd L h₁ hdp hun F
  have N : News s.heap L h₁ [] := News.nil
  (try dsimp only)
  k_unmd
  k_fold
  k_steps
  refine ⟨?_⟩
  rename IsRange _ _ _ _ _ _ _ _ => R1
  rename Fr _ _ _ _ => F1
  rename News _ _ _ _ => N1
  rename IntsAre vs _ => hx
  have hxl := hx.length
  k_dflt (refine For_range_J (n := xs.length) (news := [_]) (old := []) (fun _ => ceJ l) rfl R1 (small_one (by omega) (by omega) (by omega) (by omega)) ?_ F1 N1 ?_ ?_ ?_)
  · rw [rangeSize_one]; split <;> omega
  · exact ⟨_, [.int 795 _, .int 1 _, .int 4 _, .int 61 _], [795, 1, 4, 61], _, rfl, .cons _ _ (.cons _ _ (.cons _ _ (.cons _ _ .nil))), rfl, rfl, rfl⟩
  · rintro i ti m₁ nx h tk I oI hi ⟨D, ts, ns, c, rfl, I2, l2, e1, e2⟩ hI hoff ⟨vs2, hoI⟩ F2 N2
    have ne2 := neN (hoff _ (.head _))
    clear N1 F1 R1
    have hf : (0 + (i : Int)).fmod 4 = (i : Int) % 4 := by rw [Int.fmod_eq_emod_of_nonneg _ (by decide), Int.zero_add]
    simp only [List.cons_append, List.nil_append] at N2
    k_unmd
    k_fold
    k_steps
    rename IntsAre (ts.set _ _) _ => I5
    rename Fr _ _ _ _ => F5
    rename News _ _ _ _ => N5
    dsimp only
    exact TurnEnd.n1 F5 N5 ne2 ⟨_, _, _, _, rfl, I5, (List.length_set ..).trans l2, e1, e2⟩
  · rintro m₁ nx h tk ⟨D, ts, ns, c, rfl, I2, l2, e1, e2⟩ F2 N2
    clear N1 F1 R1
    k_unmd
    k_fold
    k_steps
    dsimp only
    exact Back.intro F2 ⟨_, _, _, _, rfl, Fresh.one N2 (.head _), I2, l2⟩
end Mine
end
section
open PySem PySem.W PySem.Calls PyProof.Rows Mine
set_option Elab.async false
set_option maxRecDepth 100000
set_option maxHeartbeats 4000000
namespace Mine

/-- how often the root goes into a word, as the table tells it -/
def oftenP (w : List Str) : Nat := if w.length % (w.length - lb w w.length) = 0 then w.length / (w.length - lb w w.length) else 1
theorem int_is {a b : Int} {t : Tok} (h : a = b) : ∃ t', Value.int a t = .int b t' := ⟨t, by rw [h]⟩
theorem often_mod {a b : Nat} (h : b < a) : (a : Int).fmod (a - b) = ((a % (a - b) : Nat) : Int) := by
  rw [show (a : Int) - b = ((a - b : Nat) : Int) by omega, Int.fmod_eq_emod_of_nonneg _ (by omega)]
  omega
theorem often_div {a b : Nat} (h : b < a) : (a : Int).fdiv (a - b) = ((a / (a - b) : Nat) : Int) := by
  rw [show (a : Int) - b = ((a - b : Nat) : Int) by omega, Int.fdiv_eq_ediv_of_nonneg _ (by omega)]
  omega
theorem often_spec (w : World) (mg mb : Str → Option Value) : PySem.Challenge.rw_wn0034_01.row.prog = pr1 → ∀ s : Shared, (hd1.heap_39 w.params).In s.heap → TR1 mg mb s.heap →
    ∀ (l : Addr) (vs : List Value) (xs : List Str), s.heap.IsList l vs.toArray → StrsAre vs xs → 0 < xs.length → xs.length ≤ 2 ^ 10 →
    Fn 30 pr1 w 113 [.ref l] (fun v h => ∃ t, v = .int (oftenP xs : Nat) t) s := by
  k_with_none
  k_with "call ref" => refine Halt.out ?_
  k_with "pyIter ref" => refine Halt.out ?_
  k_with "exec For Name Call cons nil" => k_dflt (refine wpAny_For ?_)
  k_with "eval Name" => (k_here; k_dflt (refine nameX_L (by k_asm) (by assumption) ?_; k_whole))
  k_fill
  intro _ s X T l vs xs hl hx h0 hb
  k_dflt (refine' Fn.of_body (binds := [(Str.ofString "letters", .ref l)]) (K := hd1.heap_39 w.params) X T.nolimit ?k1 ?k2 ?k3 ?k4 ?_ ?c1 ?c2 ?c3 ?c4)
  case k1 => k_is
  case k2 => k_is
  case k3 => exact BindsTo.of_eq rfl
  case k4 => exact locs rfl
  case c1 => exact rfl
  case c2 => exact rfl
  case c3 => exact rfl
  case c4 => decide
  intro dp un fr gd L h₁ hdp hun F
  have N : News s.heap L h₁ [] := News.nil
  (try dsimp only)
  k_unmd
  k_fold
  k_steps
  refine ⟨?_⟩
  rename StrsAre _ _ => hx
  refine call_Fn (overlap_spec w mg mb rfl _ (X.keeps F.keep) (T.keeps F.keep) l vs xs (hl.at fun o e => F.keep _ o e) hx (by omega)) rfl (by simp only; omega) (by simp only; omega) ?_
  rintro v h2 tk2 hk2 ⟨z, ts, n, rfl, hz, hi⟩
  have F2 := F.keeps hk2
  have hlt : (tabF xs).length = xs.length := by simp [tabF]
  have hln : (tabF xs).getD (xs.length - 1) 0 = (lb xs xs.length : Nat) := by
    rw [List.getD_eq_getElem?_getD]
    simp only [tabF, List.getElem?_map, List.getElem?_range (show xs.length - 1 < xs.length by omega), Option.map_some, Option.getD_some]
    rw [show xs.length - 1 + 1 = xs.length by omega]
  have hlb := (lb_mem xs h0).1
  k_steps
  refine item_last (listO_is hz) hi rfl (by omega) fun t => ?_
  rw [hlt, hln]
  have F3 := F2
  k_steps
  case _ =>
    rename (xs.length : Int).fmod _ = 0 => q
    rename Fr _ _ _ _ => F5
    have q2 : xs.length % (xs.length - lb xs xs.length) = 0 := by rw [often_mod (by omega)] at q; omega
    refine Back.intro F5 (int_is ?_)
    rw [often_div (by omega)]
    unfold oftenP
    rw [if_pos q2]
  case _ =>
    rename (xs.length : Int).fmod _ ≠ 0 => q
    rename Fr _ _ _ _ => F5
    have q2 : ¬ xs.length % (xs.length - lb xs xs.length) = 0 := by rw [often_mod (by omega)] at q; omega
    refine Back.intro F5 (int_is ?_)
    unfold oftenP
    rw [if_neg q2]
    rfl
end Mine
end
section
open PySem PySem.W PySem.Calls PyProof.Rows Mine
set_option Elab.async false
set_option maxRecDepth 100000
set_option maxHeartbeats 4000000
namespace Mine

theorem record_spec (w : World) (mg mb : Str → Option Value) : PySem.Challenge.rw_wn0034_01.row.prog = pr1 → ∀ s : Shared, (hd1.heap_39 w.params).In s.heap → TR1 mg mb s.heap →
    ∀ (l l2 : Addr) (vs vt : List Value) (nl nl2 : Nat), s.heap.get? l = some (W.listOf vs.toArray nl) → s.heap.get? l2 = some (W.listOf vt.toArray nl2) → vs.length ≤ 2 ^ 10 → vt.length ≤ 2 ^ 10 →
    Fn 30 pr1 w 101 [.ref l, .ref l2] (fun v h => ∃ z, v = .ref z ∧ IsEntryN w s.heap h z vs vt) s := by
  k_with_none
  k_with "call ref" => refine Halt.out ?_
  k_with "pyIter ref" => refine Halt.out ?_
  k_with "exec For Name Call cons nil" => k_dflt (refine wpAny_For ?_)
  k_with "eval Name" => (k_here; k_dflt (refine nameX_L (by k_asm) (by assumption) ?_; k_whole))
  k_fill
  intro _ s X T l l2 vs vt nl nl2 hl hl2 hb hb2
  k_dflt (refine' Fn.of_body (binds := [(Str.ofString "agents", .ref l), (Str.ofString "rules", .ref l2)]) (K := hd1.heap_39 w.params) X T.nolimit ?k1 ?k2 ?k3 ?k4 ?_ ?c1 ?c2 ?c3 ?c4)
  case k1 => k_is
  case k2 => k_is
  case k3 => exact BindsTo.of_eq rfl
  case k4 => exact locs rfl
  case c1 => exact rfl
  case c2 => exact rfl
  case c3 => exact rfl
  case c4 => decide
  intro dp un fr gd L h₁ hdp hun F
  have N : News s.heap L h₁ [] := News.nil
  (try dsimp only)
  k_unmd
  k_fold
  k_steps
  refine ⟨?_⟩
  refine entry_new w rfl mg mb _ _ _ _ _ _ _ rfl ?_ ?_ (by assumption) (by assumption) X T ?_
  · simp only; omega
  · simp only; omega
  intro z dz a1 a2 h2 tk2 t1 t2 t3 t4 F2 N2 hl0 hl1 hl3 hl4
  k_lt2 hl1
  k_lt2 hl3
  k_lt2 hl4
  dsimp only
  have Iz : InstAt h2 z (instObj 59 dz) 59 (some (entryD w (.ref a1) (.ref a2) .none .none t1 t2 t3 t4)) := instAt_mk (N2.get (.head _)) (N2.get (.tail _ (.head _)))
  k_steps
  rename Fr _ _ _ _ => F3
  rename News _ _ _ _ => N3
  refine extend_K (pre := [_, _]) (post := [_]) F3 N3 (off1 (by k_ne) (off1 (by k_ne) off0)) (off1 (by k_ne) off0) (F3.keep _ _ hl) (by simp only [List.length_nil]; omega) fun n4 h4 F4 N4 => ?_
  clear F3 N3
  simp only [List.cons_append, List.nil_append] at N4
  k_steps
  rename Fr _ _ _ _ => F5
  rename News _ _ _ _ => N5
  refine extend_K (pre := [_, _, _]) (post := []) F5 N5 (off1 (by k_ne) (off1 (by k_ne) (off1 (by k_ne) off0))) off0 (F5.keep _ _ hl2) (by simp only [List.length_nil]; omega) fun n6 h6 F6 N6 => ?_
  clear F5 N5
  simp only [List.cons_append, List.nil_append] at N6
  k_steps
  rename Fr _ _ _ _ => FE
  rename News _ _ _ _ => NE
  exact Back.intro FE ⟨z, rfl, ⟨dz, a1, a2, _, _, _, _, _, _, Fresh.of_news NE fun p hp => hp⟩⟩
end Mine
end
section
open PySem PySem.W PySem.Calls PyProof.Rows Mine
set_option Elab.async false
set_option maxRecDepth 100000
set_option maxHeartbeats 4000000
namespace Mine

def roJ (l2 : Addr) (n : Nat) (p q : Addr × Obj) (m : Str → Option Value) (nx : List (Addr × Obj)) : Prop :=
  ∃ D ts ns c, nx = [(D, W.listOf ts.toArray c), p, q] ∧ (D ≠ p.1 ∧ D ≠ q.1) ∧ IntsAre ts ns ∧ ns.length = n ∧ (∀ x ∈ ns, 0 ≤ x ∧ x < 4) ∧ m (Str.ofString "row") = some (.ref D) ∧ m (Str.ofString "ties") = some (.ref l2)

theorem ints_swap {ts : List Value} {ns : List Int} (I : IntsAre ts ns) {a b : Int} {t u : Tok} (x y : Nat) (_ _ : Unit) : IntsAre (ts.take x ++ [.int a t, .int b u] ++ ts.drop y) (ns.take x ++ [a, b] ++ ns.drop y) :=
  ((I.take x).append (.cons _ _ (.cons _ _ .nil))).append (I.drop y)
theorem swap_length {ns : List Int} {x y : Nat} (a b : Int) (h : y = x + 2) (hy : y ≤ ns.length) : (ns.take x ++ [a, b] ++ ns.drop y).length = ns.length := by
  rw [List.length_append, List.length_append, List.length_take, List.length_drop, List.length_cons, List.length_singleton]; omega
theorem swap_in {ns : List Int} {x y : Nat} {a b : Int} (h : ∀ v ∈ ns, 0 ≤ v ∧ v < 4) (ha : 0 ≤ a ∧ a < 4) (hb : 0 ≤ b ∧ b < 4) : ∀ v ∈ ns.take x ++ [a, b] ++ ns.drop y, 0 ≤ v ∧ v < 4 := by
  intro v hv
  simp only [List.mem_append, List.mem_cons, List.not_mem_nil, or_false] at hv
  rcases hv with (hv | rfl | rfl) | hv
  · exact h v (List.mem_of_mem_take hv)
  · exact ha
  · exact hb
  · exact h v (List.mem_of_mem_drop hv)
theorem row_spec (w : World) (mg mb : Str → Option Value) : PySem.Challenge.rw_wn0034_01.row.prog = pr1 → ∀ s : Shared, (hd1.heap_39 w.params).In s.heap → TR1 mg mb s.heap →
    ∀ (l l2 : Addr) (vs : List Value) (xs : List Int) (T : Nat → List Int), s.heap.IsList l vs.toArray → IntsAre vs xs → xs.length = 4 → TiesAre s.heap l2 T →
    Fn 30 pr1 w 94 [.ref l, .ref l2] (fun v h => ∃ z ts ns n, v = .ref z ∧ Fresh s.heap h [(z, W.listOf ts.toArray n)] ∧ IntsAre ts ns ∧ 0 < ns.length ∧ ns.length ≤ 18 ∧ ∀ x ∈ ns, 0 ≤ x ∧ x < 4) s := by
  k_with_none
  k_with "call ref" => refine Halt.out ?_
  k_with "pyIter ref" => refine Halt.out ?_
  k_with "binaryOp FloorDiv int int" => refine Halt.out ?_
  k_with "call builtin:len" => refine Halt.out ?_
  k_with "eval ListComp" => k_dflt (refine Comp_ev (by with_unfolding_all rfl) (by rfl) (by decide) ?_)
  k_with "exec Assign cons ListComp" => k_dflt (refine Comp_as (by with_unfolding_all rfl) (by with_unfolding_all rfl) (by rfl) (by decide) ?_)
  k_with "exec For Name Call cons nil" => k_dflt (refine wpAny_For ?_)
  k_with "eval Name" => (k_here; k_dflt (refine nameX_L (by k_asm) (by assumption) ?_; k_whole))
  k_fill
  intro _ s X T l l2 vs xs T0 hl hx hb hT
  k_dflt (refine' Fn.of_bodyC (binds := [(Str.ofString "cells", .ref l), (Str.ofString "ties", .ref l2)]) (K := hd1.heap_39 w.params) X T.nolimit ?k1 ?k2 ?k3 ?k4 ?k5 ?_ ?c1 ?c2 ?c3)
  case k1 => k_is
  case k2 => k_is
  case k3 => exact BindsTo.of_eq rfl
  case k4 => exact rfl
  case k5 => decide
  case c1 => exact rfl
  case c2 => exact rfl
  case c3 => exact rfl
  intro dp un fr gd L h₁ tk cells hdp hun F N Y
  k_cells Y
  (try dsimp only)
  k_unmd
  k_fold
  k_steps
  refine ⟨?_⟩
  rename IsRange _ _ _ _ _ _ _ _ => R1
  rename Fr _ _ _ _ => F1
  rename News _ _ _ _ => N1
  rename IntsAre vs _ => hx
  have h6 := fmod_lt (a := xs.getD (0 : Int).toNat 0) (b := 6) (by decide)
  have h3 := fmod_lt (a := xs.getD (1 : Int).toNat 0) (b := 3) (by decide)
  refine range_J (n := (1 + (xs.getD (0 : Int).toNat 0).fmod 6).toNat) (nx := []) (old := [_]) (fun i ys nx => nx = [] ∧ ∃ ns, IntsAre ys ns ∧ ns.length = i ∧ ∀ x ∈ ns, 0 ≤ x ∧ x < 4) (fun g => compK_ev) rfl R1 (small_one (by omega) (by omega) (by omega) (by omega)) ?_ (by rw [sizeLine_eq]; omega) F1 N1 ⟨rfl, [], .nil, rfl, by simp⟩ ?_ ?_
  · rw [rangeSize_one]; split <;> omega
  · rintro i t I oI C oC D m₂ ys nx h tk hi ⟨rfl, ns, hy, rfl, hr⟩ hC hm₂ F2 N2 off2 ne2 lt2
    clear F1 N1 R1
    refine TestsP.nil_if ?_
    simp only [List.nil_append] at N2
    dsimp only
    k_steps
    refine ⟨?_⟩
    refine floordiv_int (by decide) ?_ (.inl (PyProof.noPylong_small (by decide)))
    dsimp only
    k_steps
    refine ⟨?_⟩
    refine floordiv_int (pow_ne (by decide) _) ?_ (.inl (pow_py (by decide) (by omega)))
    dsimp only
    k_steps
    refine CTurn.n0 F2 N2 (fun p hp => hp) ⟨rfl, _, hy.append (.cons _ _ .nil), by rw [List.length_append, List.length_singleton], fun x hx => ?_⟩
    rcases List.mem_append.mp hx with hx | hx
    · exact hr x hx
    · rw [List.mem_singleton.mp hx]; exact fmod_lt (by decide)
  · rintro D h tk ys nx ⟨rfl, ns, hy, hl, hr⟩ F2 N2 off2
    clear F1 N1 R1
    simp only [List.nil_append] at N2
    dsimp only
    k_steps
    refine ⟨?_⟩
    rename Fr _ _ _ _ => F3
    rename News _ _ _ _ => N3
    rename IntsAre (List.flatten _) _ => I3
    rename (List.flatten _).length = _ => len3
    rename (0 : Int) ≤ _ → _ = _ => q3
    have q4 := q3 (by omega)
    have hr3 : ∀ x ∈ (List.replicate (1 + (xs.getD (Int.toNat 1) 0).fmod 3).toNat ns).flatten, 0 ≤ x ∧ x < 4 := by
      intro x hx
      obtain ⟨l', hl', hx'⟩ := List.mem_flatten.mp hx
      rw [List.eq_of_mem_replicate hl'] at hx'
      exact hr x hx'
    have hb3 : 0 < (List.replicate (1 + (xs.getD (Int.toNat 1) 0).fmod 3).toNat ns).flatten.length ∧ (List.replicate (1 + (xs.getD (Int.toNat 1) 0).fmod 3).toNat ns).flatten.length ≤ 18 := by
      have h7 : 1 ≤ ns.length ∧ ns.length ≤ 6 := by omega
      have h8 : 1 + (xs.getD (Int.toNat 1) 0).fmod 3 = 1 ∨ 1 + (xs.getD (Int.toNat 1) 0).fmod 3 = 2 ∨ 1 + (xs.getD (Int.toNat 1) 0).fmod 3 = 3 := by omega
      rw [len3]
      rcases h8 with h8 | h8 | h8 <;> rw [h8] at q4 <;> omega
    rename _ < _ ∧ _ < _ => lt3
    clear len3 q3 q4
    generalize (List.replicate (1 + (xs.getD (Int.toNat 1) 0).fmod 3).toNat ns).flatten = ms at I3 hr3 hb3
    generalize (List.replicate (1 + (xs.getD (Int.toNat 1) 0).fmod 3).toNat ys).flatten = zs at I3 N3
    have l3 := I3.length
    refine len_list (listO_is (N3.get (.head _))) (by rw [List.size_toArray]; omega) ?_
    dsimp only
    rw [List.size_toArray, l3]
    k_steps
    refine ⟨?_⟩
    rename IsRange _ _ _ _ _ _ _ _ => R1
    rename Fr _ _ _ _ => F4
    rename News _ _ _ _ => N4
    refine For_range_J (n := 2 * ms.length - 2) (news := [_, _, _]) (old := []) (fun _ => roJ l2 ms.length _ _) rfl R1 (small_one (by omega) (by omega) (by omega) (by omega)) ?_ F4 N4 ⟨_, _, _, _, rfl, ⟨neN (by dsimp only; omega), neN (by dsimp only; omega)⟩, I3, rfl, hr3, rfl, rfl⟩ ?_ ?_
    · rw [rangeSize_one]; split <;> omega
    · rintro i ti m₁ nx h tk I oI hi ⟨D, ts, ns, c, rfl, neD, I2, l2, hr2, e1, e2⟩ hI hoff ⟨vs2, hoI⟩ F2 N2
      have neI := neN (hoff _ (.head _))
      have neD1 := neN neD.1
      have neD2 := neN neD.2
      dsimp only at neI neD1 neD2
      clear F4 N4 I3 R1 hr3
      simp only [List.cons_append, List.nil_append] at N2
      k_unmd
      k_fold
      dsimp only
      k_steps
      refine ⟨?_⟩
      rename Fr _ _ _ _ => F3
      rename News _ _ _ _ => N3
      have l4 := I2.length
      refine len_list (listO_is (N3.get (.head _))) (by rw [List.size_toArray]; omega) ?_
      dsimp only
      rw [List.size_toArray, l4]
      k_steps
      refine ⟨?_⟩
      have hpl := fmod_lt (a := 0 + (i : Int)) (b := (ns.length : Int) - 1) (by omega)
      refine floordiv_int (pow_ne (by decide) _) ?_ (.inl (pow_py (by decide) (by omega)))
      dsimp only

      have hg : ∀ k, 0 ≤ ns.getD k 0 ∧ ns.getD k 0 < 4 := by
        intro k
        rw [List.getD_eq_getElem?_getD]
        cases e : ns[k]? with
        | none => exact ⟨Int.le_refl _, by decide⟩
        | some v => exact hr2 _ (List.mem_of_getElem? e)
      k_steps
      case' _ =>
        rename Fr _ _ _ _ => F5
        rename News _ _ _ _ => N5
        refine item_ties (hT.ext F5.keep) (hg _).1 (hg _).2 fun a vs1 ha hva hla => ?_
        k_steps
      case' _ =>
        rename Fr _ _ _ _ => F6
        rename News _ _ _ _ => N6
        dsimp only
        exact TurnEnd.split (nx := [_, _, _]) F6 N6 (off1 neI (off1 (hoff _ (.tail _ (.head _))) (off1 (hoff _ (.tail _ (.tail _ (.head _)))) off0))) ⟨D, ts, ns, c, rfl, neD, I2, l2, hr2, e1, e2⟩
      case' _ =>
        rename Fr _ _ _ _ => F6
        rename News _ _ _ _ => N6
        dsimp only
        refine setSlice_K (pre := [_]) (post := [_, _, _]) F6 N6 (off1 (by k_ne) off0) (off1 (by k_ne) (off1 (by k_ne) (off1 (by k_ne) off0))) (N6.get (.head _)) (by k_ne) hpl.1 (by omega) (by omega) (by simp only [List.length_cons, List.length_nil]; omega) fun n7 h7 F7 N7 => ?_
        simp only [List.cons_append, List.nil_append] at N7
        k_steps
        rename Fr _ _ _ _ => F8
        rename News _ _ _ _ => N8
        dsimp only
        have N9 := fun p hp => N8 p (List.mem_cons_of_mem _ hp)
        refine TurnEnd.split (nx := [_, _, _]) F8 N9 (off1 neI (off1 (hoff _ (.tail _ (.head _))) (off1 (hoff _ (.tail _ (.tail _ (.head _)))) off0))) ⟨D, _, _, _, rfl, neD, ints_swap I2 _ _ () (), ?_, ?_, e1, e2⟩
        · rw [swap_length _ _ (by omega) (by omega)]; exact l2
        · exact swap_in hr2 (hg _) (hg _)
      case _ =>
        rename Fr _ _ _ _ => F6
        rename News _ _ _ _ => N6
        dsimp only
        exact TurnEnd.split (nx := [_, _, _]) F6 N6 (off1 neI (off1 (hoff _ (.tail _ (.head _))) (off1 (hoff _ (.tail _ (.tail _ (.head _)))) off0))) ⟨D, ts, ns, c, rfl, neD, I2, l2, hr2, e1, e2⟩
    · rintro m₁ nx h tk ⟨D, ts, ns, c, rfl, neD, I2, l2, hr2, e1, e2⟩ F2 N2
      k_unmd
      k_fold
      k_steps
      dsimp only
      exact Back.intro F2 ⟨_, _, _, _, rfl, Fresh.one N2 (.head _), I2, by omega, by omega, hr2⟩
end Mine
end
section
namespace Mine
/-! what _law_is_power computes -/
def rStep (p : List Int × List Int) (x : Int) : List Int × List Int := if 0 < p.1.getD x.toNat 0 then (p.1.set x.toNat (p.1.getD x.toNat 0 - 1), p.2 ++ [x]) else p
def leftP (row : List Int) (k : Int) (n : Nat) : List Int := (List.range n).map fun x : Nat => ((row.count (x : Int) : Nat) : Int).fdiv k
def rootR (row : List Int) (k : Int) (i : Nat) : List Int × List Int := (row.take i).foldl rStep (leftP row k 4, [])
def rootP (row : List Int) (k : Int) : List Int := (row.foldl rStep (leftP row k 4, [])).2
def unevenP (row : List Int) (k : Int) (n : Nat) : List Int := ((List.range n).filter fun x : Nat => decide ((leftP row k 4).getD x 0 * k ≠ ((row.count (x : Int) : Nat) : Int))).map fun x : Nat => (x : Int)
def tiedAhead (T : Nat → List Int) (rest : List Int) (x : Int) : List Int := (rest.take (rest.idxOf x)).filter fun y => decide (y ∈ T x.toNat)
def delOne (T : Nat → List Int) (rest : List Int) (x : Int) : Option (List Int) :=
  if x ∈ rest then (if tiedAhead T rest x = [] then some (rest.eraseIdx (rest.idxOf x)) else none) else none
def delAll (T : Nat → List Int) : List Int → List Int → Option (List Int)
  | [], rest => some rest
  | x :: xs, rest => (delOne T rest x).bind (delAll T xs)
def powerP (T : Nat → List Int) (row : List Int) (k : Int) : Bool := decide (unevenP row k 4 = []) && decide (delAll T (List.replicate k.toNat (rootP row k)).flatten row = some [])
theorem delAll_append (T : Nat → List Int) : ∀ (a b rest : List Int), delAll T (a ++ b) rest = (delAll T a rest).bind (delAll T b)
  | [], b, rest => rfl
  | x :: a, b, rest => by
    show (delOne T rest x).bind (delAll T (a ++ b)) = ((delOne T rest x).bind (delAll T a)).bind (delAll T b)
    cases delOne T rest x with
    | none => rfl
    | some r => exact delAll_append T a b r
theorem delAll_bad {T : Nat → List Int} {xs row rest : List Int} {i : Nat} {x : Int} (h : delAll T (xs.take i) row = some rest) (hx : xs[i]? = some x) (hn : delOne T rest x = none) : delAll T xs row = none := by
  have e : xs = xs.take i ++ x :: xs.drop (i + 1) := by
    have hi : i < xs.length := by
      by_cases q : i < xs.length
      · exact q
      · rw [List.getElem?_eq_none (by omega)] at hx; cases hx
    have h2 : xs[i] = x := by rw [List.getElem?_eq_getElem hi] at hx; exact Option.some.inj hx
    rw [← h2, List.getElem_cons_drop, List.take_append_drop]
  rw [e, delAll_append, h]
  show (delOne T rest x).bind _ = none
  rw [hn]; rfl
theorem delAll_next {T : Nat → List Int} {xs row rest r : List Int} {i : Nat} {x : Int} (h : delAll T (xs.take i) row = some rest) (hx : xs[i]? = some x) (hn : delOne T rest x = some r) : delAll T (xs.take (i + 1)) row = some r := by
  rw [List.take_add_one, hx, delAll_append, h]
  show (delOne T rest x).bind _ = some r
  rw [hn]; rfl
theorem delOne_le {T : Nat → List Int} {rest r : List Int} {x : Int} (h : delOne T rest x = some r) : r.length ≤ rest.length := by
  unfold delOne at h
  split at h
  · split at h
    · cases h; rw [List.length_eraseIdx]; split <;> omega
    · cases h
  · cases h
theorem delAll_le {T : Nat → List Int} : ∀ {xs row rest : List Int}, delAll T xs row = some rest → rest.length ≤ row.length
  | [], row, rest, h => by cases h; exact Nat.le_refl _
  | x :: xs, row, rest, h => by
    unfold delAll at h
    cases e : delOne T row x with
    | none => rw [e] at h; cases h
    | some r =>
      rw [e] at h
      exact Nat.le_trans (delAll_le (show delAll T xs r = some rest from h)) (delOne_le e)
theorem delOne_nin {T : Nat → List Int} {rest : List Int} {x : Int} (h : x ∉ rest) : delOne T rest x = none := by rw [delOne, if_neg h]
theorem delOne_tied {T : Nat → List Int} {rest : List Int} {x : Int} (h : tiedAhead T rest x ≠ []) : delOne T rest x = none := by
  by_cases hm : x ∈ rest
  · rw [delOne, if_pos hm, if_neg h]
  · rw [delOne, if_neg hm]
theorem delOne_ok {T : Nat → List Int} {rest : List Int} {x : Int} (h : x ∈ rest) (h2 : tiedAhead T rest x = []) : delOne T rest x = some (rest.eraseIdx (rest.idxOf x)) := by rw [delOne, if_pos h, if_pos h2]
theorem powerP_bad {T : Nat → List Int} {row rest : List Int} {k x : Int} {i : Nat} (h : delAll T ((List.replicate k.toNat (rootP row k)).flatten.take i) row = some rest) (hx : (List.replicate k.toNat (rootP row k)).flatten[i]? = some x) (hn : delOne T rest x = none) : powerP T row k = false := by
  rw [powerP, delAll_bad h hx hn, Bool.and_eq_false_iff]
  exact .inr (decide_eq_false (fun h => nomatch h))
theorem any_mem {rest : List Int} {x : Int} (h : (rest.any fun y => y == x) = true) : x ∈ rest := by
  obtain ⟨y, hy, e⟩ := List.any_eq_true.mp h
  exact (eq_of_beq e) ▸ hy
theorem any_nmem {rest : List Int} {x : Int} (h : (rest.any fun y => y == x) = false) : x ∉ rest := fun hm => by
  have h2 : (rest.any fun y => y == x) = true := List.any_eq_true.mpr ⟨x, hm, beq_self_eq_true x⟩
  rw [h] at h2; cases h2
theorem rootR_next {row : List Int} {k : Int} {i : Nat} {x : Int} (hx : row[i]? = some x) : rootR row k (i + 1) = rStep (rootR row k i) x := by
  unfold rootR
  rw [List.take_add_one, hx, List.foldl_append]; rfl
theorem rStep_length (p : List Int × List Int) (x : Int) : (rStep p x).1.length = p.1.length := by
  unfold rStep; split
  · simp
  · rfl
theorem rStep_le (p : List Int × List Int) (x : Int) : (rStep p x).2.length ≤ p.2.length + 1 := by
  unfold rStep; split
  · simp
  · omega
theorem foldl_r_length : ∀ (l : List Int) (p : List Int × List Int), (l.foldl rStep p).1.length = p.1.length
  | [], _ => rfl
  | x :: l, p => by rw [List.foldl_cons, foldl_r_length l, rStep_length]
theorem foldl_r_le : ∀ (l : List Int) (p : List Int × List Int), (l.foldl rStep p).2.length ≤ p.2.length + l.length
  | [], _ => by simp
  | x :: l, p => by
    rw [List.foldl_cons, List.length_cons]
    have := foldl_r_le l (rStep p x)
    have := rStep_le p x
    omega
theorem rootR_length (row : List Int) (k : Int) (i : Nat) : (rootR row k i).1.length = 4 := by
  unfold rootR; rw [foldl_r_length]; simp [leftP]
theorem rootR_le (row : List Int) (k : Int) (i : Nat) : (rootR row k i).2.length ≤ row.length := by
  unfold rootR
  have h := foldl_r_le (row.take i) (leftP row k 4, [])
  have h2 : (row.take i).length ≤ row.length := by rw [List.length_take]; omega
  have h3 : (([] : List Int)).length = 0 := rfl
  dsimp only at h
  omega
theorem rootR_full {row : List Int} {k : Int} : (rootR row k row.length).2 = rootP row k := by
  unfold rootR rootP; rw [List.take_length]
theorem mem_rStep {p : List Int × List Int} {x y : Int} (h : y ∈ (rStep p x).2) : y ∈ p.2 ∨ y = x := by
  unfold rStep at h
  split at h
  · rcases List.mem_append.mp h with h | h
    · exact .inl h
    · exact .inr (List.mem_singleton.mp h)
  · exact .inl h
theorem mem_foldl_r : ∀ (l : List Int) (p : List Int × List Int) (y : Int), y ∈ (l.foldl rStep p).2 → y ∈ p.2 ∨ y ∈ l
  | [], _, _, h => .inl h
  | x :: l, p, y, h => by
    rcases mem_foldl_r l _ y h with h | h
    · rcases mem_rStep h with h | h
      · exact .inl h
      · exact .inr (h ▸ .head _)
    · exact .inr (.tail _ h)
theorem mem_rootR {row : List Int} {k : Int} {i : Nat} {y : Int} (h : y ∈ (rootR row k i).2) : y ∈ row := by
  rcases mem_foldl_r _ _ _ h with h | h
  · cases h
  · exact List.mem_of_mem_take h
end Mine
end
section
open PySem PySem.W PySem.Calls PyProof.Rows Mine
set_option Elab.async false
set_option maxRecDepth 100000
set_option maxHeartbeats 4000000
namespace Mine

def T4 (n0 n1 n2 n3 : List Int) : Nat → List Int
  | 0 => n0
  | 1 => n1
  | 2 => n2
  | _ => n3
/-- reflexive, symmetric, within 0..3 -/
structure GoodT (T : Nat → List Int) : Prop where
  refl : ∀ x : Nat, x < 4 → (x : Int) ∈ T x
  symm : ∀ x y : Nat, x < 4 → y < 4 → (y : Int) ∈ T x → (x : Int) ∈ T y
  within : ∀ x : Nat, x < 4 → ∀ v ∈ T x, 0 ≤ v ∧ v < 4
theorem GoodT.tie {T T' : Nat → List Int} (g : GoodT T) {a b : Nat} (ha : a < 4) (hb : b < 4) (hne : a ≠ b) (h : ∀ x, x < 4 → T' x = if x = a then T a ++ [(b : Int)] else if x = b then T b ++ [(a : Int)] else T x) : GoodT T' := by
  have mem : ∀ x, x < 4 → ∀ v, v ∈ T' x ↔ v ∈ T x ∨ (x = a ∧ v = b) ∨ (x = b ∧ v = a) := by
    intro x hx v
    rw [h x hx]
    split
    · next e => subst e; simp [hne]
    · split
      · next e1 e => subst e; simp [Ne.symm hne]
      · next e1 e2 => simp [e1, e2]
  refine ⟨fun x hx => (mem x hx _).mpr (.inl (g.refl x hx)), fun x y hx hy hm => ?_, fun x hx v hv => ?_⟩
  · rw [mem y hy]
    rcases (mem x hx _).mp hm with h1 | ⟨h1, h2⟩ | ⟨h1, h2⟩
    · exact .inl (g.symm x y hx hy h1)
    · exact .inr (.inr ⟨by omega, by omega⟩)
    · exact .inr (.inl ⟨by omega, by omega⟩)
  · rcases (mem x hx _).mp hv with h1 | ⟨h1, h2⟩ | ⟨h1, h2⟩
    · exact g.within x hx v h1
    · omega
    · omega
theorem good0 : GoodT (T4 [0] [1] [2] [3]) := by
  refine ⟨?_, ?_, ?_⟩
  · intro x hx
    match x, hx with
    | 0, _ => decide
    | 1, _ => decide
    | 2, _ => decide
    | 3, _ => decide
  · intro x y hx hy hm
    match x, hx with
    | 0, _ => rw [show T4 [0] [1] [2] [3] 0 = [0] from rfl, List.mem_singleton] at hm; have : y = 0 := by omega
              subst this; decide
    | 1, _ => rw [show T4 [0] [1] [2] [3] 1 = [1] from rfl, List.mem_singleton] at hm; have : y = 1 := by omega
              subst this; decide
    | 2, _ => rw [show T4 [0] [1] [2] [3] 2 = [2] from rfl, List.mem_singleton] at hm; have : y = 2 := by omega
              subst this; decide
    | 3, _ => rw [show T4 [0] [1] [2] [3] 3 = [3] from rfl, List.mem_singleton] at hm; have : y = 3 := by omega
              subst this; decide
  · intro x hx v hv
    match x, hx with
    | 0, _ => have := List.mem_singleton.mp hv; omega
    | 1, _ => have := List.mem_singleton.mp hv; omega
    | 2, _ => have := List.mem_singleton.mp hv; omega
    | 3, _ => have := List.mem_singleton.mp hv; omega
theorem ties_at {h : Heap} {z a0 a1 a2 a3 : Addr} {v0 v1 v2 v3 : List Value} {n0 n1 n2 n3 : List Int} {c0 c1 c2 c3 c4 : Nat} (e : h.get? z = some (W.listOf #[.ref a0, .ref a1, .ref a2, .ref a3] c4)) (e3 : h.get? a3 = some (W.listOf (List.toArray v3) c3)) (e2 : h.get? a2 = some (W.listOf (List.toArray v2) c2)) (e1 : h.get? a1 = some (W.listOf (List.toArray v1) c1)) (e0 : h.get? a0 = some (W.listOf (List.toArray v0) c0))
    (hv : IntsAre v0 n0 ∧ IntsAre v1 n1 ∧ IntsAre v2 n2 ∧ IntsAre v3 n3) (hl : v0.length ≤ 64 ∧ v1.length ≤ 64 ∧ v2.length ≤ 64 ∧ v3.length ≤ 64) : TiesAre h z (T4 n0 n1 n2 n3) := by
  obtain ⟨hv0, hv1, hv2, hv3⟩ := hv
  have l0 := hv0.length
  have l1 := hv1.length
  have l2 := hv2.length
  have l3 := hv3.length
  refine ⟨[a0, a1, a2, a3], rfl, listO_is e, fun x a e => ?_⟩
  match x, e with
  | 0, e => cases e; exact ⟨v0, listO_is e0, hv0, show n0.length ≤ 64 by omega⟩
  | 1, e => cases e; exact ⟨v1, listO_is e1, hv1, show n1.length ≤ 64 by omega⟩
  | 2, e => cases e; exact ⟨v2, listO_is e2, hv2, show n2.length ≤ 64 by omega⟩
  | 3, e => cases e; exact ⟨v3, listO_is e3, hv3, show n3.length ≤ 64 by omega⟩
def setF {α : Type} (f : Nat → α) (j : Nat) (v : α) : Nat → α := fun x => if x = j then v else f x
def P4 {α : Type} (a b c d : α) : Nat → α
  | 0 => a
  | 1 => b
  | 2 => c
  | _ => d
/-- the four lists of ties and the list of them -/
def tiL (D : Addr) (as : Nat → Addr) (vs : Nat → List Value) (cs : Nat → Nat) (c4 : Nat) : List (Addr × Obj) :=
  [(D, W.listOf #[.ref (as 0), .ref (as 1), .ref (as 2), .ref (as 3)] c4), (as 3, W.listOf (List.toArray (vs 3)) (cs 3)), (as 2, W.listOf (List.toArray (vs 2)) (cs 2)), (as 1, W.listOf (List.toArray (vs 1)) (cs 1)), (as 0, W.listOf (List.toArray (vs 0)) (cs 0))]
theorem upd_mid {d : Addr} {o o' : Obj} {post : List (Addr × Obj)} (hq : ∀ p ∈ post, p.1 ≠ d) : ∀ {pre : List (Addr × Obj)}, (∀ p ∈ pre, p.1 ≠ d) → Upd d o o' (pre ++ (d, o) :: post) (pre ++ (d, o') :: post)
  | [], _ => .head hq
  | _ :: _, h => .tail (h _ (.head _)) (upd_mid hq fun p hp => h p (.tail _ hp))
theorem four {j : Nat} (h : j < 4) : j = 0 ∨ j = 1 ∨ j = 2 ∨ j = 3 := by omega
theorem tiL_mem {D : Addr} {as : Nat → Addr} {vs : Nat → List Value} {cs : Nat → Nat} {c4 j : Nat} (hj : j < 4) {own : List (Addr × Obj)} : (as j, W.listOf (List.toArray (vs j)) (cs j)) ∈ tiL D as vs cs c4 ++ own := by
  rcases four hj with rfl | rfl | rfl | rfl <;> simp [tiL]
theorem tiL_at {D : Addr} {as : Nat → Addr} {vs : Nat → List Value} {cs : Nat → Nat} {c4 : Nat} {P : Addr → Prop} (hD : P D) (h : ∀ j, j < 4 → P (as j)) : ∀ p ∈ tiL D as vs cs c4, P p.1 := by
  intro p hp
  simp only [tiL, List.mem_cons, List.not_mem_nil, or_false] at hp
  rcases hp with rfl | rfl | rfl | rfl | rfl
  · exact hD
  · exact h 3 (by decide)
  · exact h 2 (by decide)
  · exact h 1 (by decide)
  · exact h 0 (by decide)
section
variable {prog : Program} {w : World} {A : Around} {E : Value → Shared → Prop} {s : Shared} {h₀ : Heap} {L : Addr} {m : Str → Option Value} {D : Addr} {as : Nat → Addr} {vs : Nat → List Value} {cs : Nat → Nat} {c4 j : Nat} {own : List (Addr × Obj)}
theorem app_tie {x : Value} {Q : Value → Shared → Prop} (F : Fr h₀ L s.heap m) (N : News h₀ L s.heap (tiL D as vs cs c4 ++ own)) (hj : j < 4) (hd : ∀ x y, x < 4 → y < 4 → x ≠ y → as x ≠ as y) (hD : ∀ x, x < 4 → D ≠ as x) (ho : ∀ p ∈ own, p.1 ≠ as j) (hz : (vs j).length ≤ 2 ^ 20)
    (h : ∀ h', Fr h₀ L h' m → News h₀ L h' (tiL D as (setF vs j (vs j ++ [x])) (setF cs j (cs j + 1)) c4 ++ own) → Q .none { s with heap := h' }) :
    wpAny (model prog w) A (call (.builtin "list.append") [.ref (as j), x]) Q E s := by
  have go : ∀ pre post, tiL D as vs cs c4 ++ own = pre ++ (as j, W.listOf (List.toArray (vs j)) (cs j)) :: post → tiL D as (setF vs j (vs j ++ [x])) (setF cs j (cs j + 1)) c4 ++ own = pre ++ (as j, W.listOf (List.toArray (vs j ++ [x])) (cs j + 1)) :: post → (∀ p ∈ pre, p.1 ≠ as j) → (∀ p ∈ post, p.1 ≠ as j) → wpAny (model prog w) A (call (.builtin "list.append") [.ref (as j), x]) Q E s := by
    intro pre post e1 e2 h1 h2
    rw [e1] at N
    refine append_own F N (upd_mid h2 h1) hz fun h' F' N' => h h' F' ?_
    rw [e2]; exact N'
  rcases four hj with rfl | rfl | rfl | rfl
  · exact go [(D, _), (as 3, _), (as 2, _), (as 1, _)] own rfl rfl (off1 (hD 0 hj) (off1 (hd 3 0 (by decide) hj (by decide)) (off1 (hd 2 0 (by decide) hj (by decide)) (off1 (hd 1 0 (by decide) hj (by decide)) off0)))) ho
  · exact go [(D, _), (as 3, _), (as 2, _)] ((as 0, _) :: own) rfl rfl (off1 (hD 1 hj) (off1 (hd 3 1 (by decide) hj (by decide)) (off1 (hd 2 1 (by decide) hj (by decide)) off0))) (off1 (hd 0 1 (by decide) hj (by decide)) ho)
  · exact go [(D, _), (as 3, _)] ((as 1, _) :: (as 0, _) :: own) rfl rfl (off1 (hD 2 hj) (off1 (hd 3 2 (by decide) hj (by decide)) off0)) (off1 (hd 1 2 (by decide) hj (by decide)) (off1 (hd 0 2 (by decide) hj (by decide)) ho))
  · exact go [(D, _)] ((as 2, _) :: (as 1, _) :: (as 0, _) :: own) rfl rfl (off1 (hD 3 hj) off0) (off1 (hd 2 3 (by decide) hj (by decide)) (off1 (hd 1 3 (by decide) hj (by decide)) (off1 (hd 0 3 (by decide) hj (by decide)) ho)))
theorem item_tie {value slice : PySem.Expr} {k : Int} {u : Tok} {Q : Value → Shared → Prop} (N : News h₀ L s.heap (tiL D as vs cs c4 ++ own)) (h0 : 0 ≤ k) (h1 : k < 4) (h : Q (.ref (as k.toNat)) s)
    (hs : subscripted slice false (.ref D) (.int k u) = operate [.ref D, .int k u] (getItem (.ref D) (.int k u)) := by with_unfolding_all rfl) :
    wpAny (model prog w) A (subscriptTail value slice (.ref D) (.int k u)) Q E s := by
  have hL : s.heap.IsList D ([.ref (as 0), .ref (as 1), .ref (as 2), .ref (as 3)] : List Value).toArray := listO_is (N.get (a := D) (.head _))
  refine item_any hL h0 (by simpa using h1) (by simp) (fun v hv' => ?_) hs
  have e4 : k = 0 ∨ k = 1 ∨ k = 2 ∨ k = 3 := by omega
  rcases e4 with rfl | rfl | rfl | rfl
  · cases hv'; exact h
  · cases hv'; exact h
  · cases hv'; exact h
  · cases hv'; exact h
end
def tiJ (k : Nat) (m : Str → Option Value) (nx : List (Addr × Obj)) : Prop :=
  ∃ D as vs cs c4 T x t, nx = tiL D as vs cs c4 ∧ (∀ x y, x < 4 → y < 4 → x ≠ y → as x ≠ as y) ∧ (∀ x, x < 4 → D ≠ as x) ∧ (∀ x, x < 4 → IntsAre (vs x) (T x)) ∧ GoodT T ∧
    (∀ x, x < 4 → (vs x).length ≤ k) ∧ m (Str.ofString "ties") = some (.ref D) ∧ m (Str.ofString "number") = some (.int x t)
theorem tiJ.mono {k k' : Nat} {m : Str → Option Value} {nx : List (Addr × Obj)} (x : tiJ k m nx) (h : k ≤ k') : tiJ k' m nx := by
  obtain ⟨D, as, vs, cs, c4, T, x, t, e1, e2, e3, e4, e5, e6, e7⟩ := x
  exact ⟨D, as, vs, cs, c4, T, x, t, e1, e2, e3, e4, e5, fun x hx => Nat.le_trans (e6 x hx) h, e7⟩
theorem GoodT.congr {T T' : Nat → List Int} (g : GoodT T) (h : ∀ x, x < 4 → T' x = T x) : GoodT T' :=
  ⟨fun x hx => by rw [h x hx]; exact g.refl x hx, fun x y hx hy hm => by rw [h x hx] at hm; rw [h y hy]; exact g.symm x y hx hy hm, fun x hx v hv => by rw [h x hx] at hv; exact g.within x hx v hv⟩
theorem tie_set {T : Nat → List Int} {a b : Nat} (hne : a ≠ b) : ∀ x, x < 4 → setF (setF T a (T a ++ [(b : Int)])) b (T b ++ [(a : Int)]) x = if x = a then T a ++ [(b : Int)] else if x = b then T b ++ [(a : Int)] else T x := by
  intro x _
  unfold setF
  by_cases h1 : x = a
  · rw [if_neg (fun e => hne (h1.symm.trans e)), if_pos h1, if_pos h1]
  · by_cases h2 : x = b
    · rw [if_pos h2, if_neg h1, if_pos h2]
    · rw [if_neg h2, if_neg h1, if_neg h1, if_neg h2]
theorem ints_set {vs : Nat → List Value} {T : Nat → List Int} {a : Nat} {v : List Value} {n : List Int} (h : ∀ x, x < 4 → IntsAre (vs x) (T x)) (hv : IntsAre v n) : ∀ x, x < 4 → IntsAre (setF vs a v x) (setF T a n x) := by
  intro x hx
  unfold setF
  split
  · exact hv
  · exact h x hx
theorem tie_snoc {vs : List Value} {ns : List Int} {a b : Int} {t : Tok} (h : IntsAre vs ns) (e : a = b) : IntsAre (vs ++ [.int a t]) (ns ++ [b]) := h.append (e ▸ .cons _ _ .nil)
theorem ties_spec (w : World) (mg mb : Str → Option Value) : PySem.Challenge.rw_wn0034_01.row.prog = pr1 → ∀ s : Shared, (hd1.heap_39 w.params).In s.heap → TR1 mg mb s.heap →
    ∀ (x : Int) (t : Tok), True →
    Fn 30 pr1 w 89 [.int x t] (fun v h => ∃ z a0 a1 a2 a3 v0 v1 v2 v3 n0 n1 n2 n3 c0 c1 c2 c3 c4, v = .ref z ∧ Fresh s.heap h [(z, W.listOf #[.ref a0, .ref a1, .ref a2, .ref a3] c4), (a3, W.listOf (List.toArray v3) c3), (a2, W.listOf (List.toArray v2) c2), (a1, W.listOf (List.toArray v1) c1), (a0, W.listOf (List.toArray v0) c0)] ∧ (IntsAre v0 n0 ∧ IntsAre v1 n1 ∧ IntsAre v2 n2 ∧ IntsAre v3 n3) ∧ GoodT (T4 n0 n1 n2 n3) ∧ (v0.length ≤ 64 ∧ v1.length ≤ 64 ∧ v2.length ≤ 64 ∧ v3.length ≤ 64)) s := by
  k_with_none
  k_with "subscriptTail Name Name ref int" => refine Halt.out ?_
  k_with "getMethod ref" => refine Halt.out ?_
  k_with "call builtin:list.append" => refine Halt.out ?_
  k_with "exec If" => refine wpAny_If ?_
  k_with "call ref" => refine Halt.out ?_
  k_with "pyIter ref" => refine Halt.out ?_
  k_with "loadName" => (k_here; k_dflt (refine loadX_L (by k_asm) (by assumption) ?_; k_whole))
  k_with "exec For Name Call cons nil" => k_dflt (refine wpAny_For ?_)
  k_with "eval Name" => (k_here; k_dflt (refine nameX_L (by k_asm) (by assumption) ?_; k_whole))
  k_fill
  intro _ s X T x t _
  k_dflt (refine' Fn.of_body (binds := [(Str.ofString "number", .int x t)]) (K := hd1.heap_39 w.params) X T.nolimit ?k1 ?k2 ?k3 ?k4 ?_ ?c1 ?c2 ?c3 ?c4)
  case k1 => k_is
  case k2 => k_is
  case k3 => exact BindsTo.of_eq rfl
  case k4 => exact locs rfl
  case c1 => exact rfl
  case c2 => exact rfl
  case c3 => exact rfl
  case c4 => decide
  intro dp un fr gd L h₁ hdp hun F
  have N : News s.heap L h₁ [] := News.nil
  (try dsimp only)
  k_unmd
  k_fold
  k_steps
  refine ⟨?_⟩
  rename IsRange _ _ _ _ _ _ _ _ => R1
  rename Fr _ _ _ _ => F1
  rename News _ _ _ _ => N1
  refine For_range_J (n := 4) (news := tiL _ (P4 _ _ _ _) (P4 _ _ _ _) (P4 _ _ _ _) _) (old := []) (fun i => tiJ (1 + 4 * i)) rfl R1 (small_one (by omega) (by omega) (by omega) (by omega)) ?_ F1 N1 ?_ ?_ ?_
  · rfl
  · refine ⟨_, _, _, _, _, P4 [0] [1] [2] [3], _, _, rfl, ?_, ?_, ?_, good0.congr fun x hx => ?_, ?_, rfl, rfl⟩
    · intro x y hx hy hn
      rcases four hx with rfl | rfl | rfl | rfl <;> rcases four hy with rfl | rfl | rfl | rfl <;> first | exact absurd rfl hn | (simp only [P4]; exact neN (by omega))
    · intro x hx
      rcases four hx with rfl | rfl | rfl | rfl <;> (simp only [P4]; exact neN (by omega))
    · intro x hx
      rcases four hx with rfl | rfl | rfl | rfl <;> exact .cons _ _ .nil
    · rcases four hx with rfl | rfl | rfl | rfl <;> rfl
    · intro x hx
      rcases four hx with rfl | rfl | rfl | rfl <;> exact Nat.le_refl _
  · rintro i ti m₁ nx h tk I oI hi ⟨D, as, vs, cs, c4, T, x1, t1, rfl, hd, hD, hv, hg, hl, e1, e2⟩ hI hoff ⟨vs2, hoI⟩ F2 N2
    clear F1 N1 R1
    k_unmd
    k_fold
    (try dsimp only)
    k_steps
    refine ⟨?_⟩
    rename IsRange _ _ _ _ _ _ _ _ => R3
    rename Fr _ _ _ _ => F3
    rename News _ _ _ _ => N3
    refine For_range_J (n := i) (news := tiL D as vs cs c4) (old := [(I, oI)]) (fun j m nx => tiJ (1 + 4 * i + j) m nx ∧ m (Str.ofString "high") = some (.int (0 + i) ti) ∧ ∀ p ∈ nx, p.1 ≠ I) rfl R3 (small_one (by omega) (by omega) (by omega) (by omega)) ?_ F3 N3 ?_ ?_ ?_
    · rw [rangeSize_one]; split <;> omega
    · exact ⟨⟨D, as, vs, cs, c4, T, x1, t1, rfl, hd, hD, hv, hg, hl, e1, e2⟩, rfl, hoff⟩
    · clear F2 N2 F3 N3 hl hv hg hd hD R3 e1 e2
      rintro j tj m₂ nx h2 tk2 I2 oI2 hj ⟨⟨D, as, vs, cs, c4, T, x1, t1, rfl, hd, hD, hv, hg, hl, e1, e2⟩, e3, hofI⟩ hI2 hoff2 ⟨vs3, hoI2⟩ F4 N4
      have hji : j < 4 := by omega
      have hne : j ≠ i := by omega
      have own : ∀ (y : Nat), y < 4 → ∀ p ∈ (I2, oI2) :: [(I, oI)], p.1 ≠ as y := fun y hy => off1 (hoff2 _ (List.append_nil _ ▸ tiL_mem hy)).symm (off1 (hofI _ (List.append_nil _ ▸ tiL_mem hy)).symm off0)
      have offI : ∀ vs' cs', ∀ p ∈ tiL D as vs' cs' c4, p.1 ≠ I := fun vs' cs' => tiL_at (P := fun a => a ≠ I) (hofI (D, _) (.head _)) fun y hy => hofI _ (List.append_nil _ ▸ tiL_mem hy)
      have offI2 : ∀ vs' cs', ∀ p ∈ tiL D as vs' cs' c4, p.1 ≠ I2 := fun vs' cs' => tiL_at (P := fun a => a ≠ I2) (hoff2 (D, _) (.head _)) fun y hy => hoff2 _ (List.append_nil _ ▸ tiL_mem hy)
      k_unmd
      k_fold
      (try dsimp only)
      k_steps
      case' _ =>
        refine ⟨?_⟩
        rename Fr _ _ _ _ => F5
        rename News _ _ _ _ => N5
        refine item_tie N5 (by omega) (by omega) ?_
        rw [show (0 + (j : Int)).toNat = j by omega]
        (try dsimp only)
        k_steps
        refine ⟨?_⟩
        refine method_K (N5.get (tiL_mem hji)) PySem.F.slot_list_append PySem.F.type_list_append ?_
        (try dsimp only)
        k_steps
        refine ⟨?_⟩
        refine app_tie F5 N5 hji hd hD (own j hji) (by have := hl j hji; omega) fun h6 F6 N6 => ?_
        clear F5 N5
        (try dsimp only)
        k_steps
        refine ⟨?_⟩
        refine item_tie N6 (by omega) (by omega) ?_
        rw [show (0 + (i : Int)).toNat = i by omega]
        (try dsimp only)
        k_steps
        refine ⟨?_⟩
        refine method_K (N6.get (tiL_mem hi)) PySem.F.slot_list_append PySem.F.type_list_append ?_
        (try dsimp only)
        k_steps
        refine ⟨?_⟩
        have e6 : setF vs j (vs j ++ [Value.int (0 + (i : Int)) ti]) i = vs i := if_neg (Ne.symm hne)
        refine app_tie F6 N6 hi hd hD (own i hi) (by rw [e6]; have := hl i hi; omega) fun h7 F7 N7 => ?_
        rw [e6] at N7
        clear F6 N6
        (try dsimp only)
        k_steps
        rename Fr _ _ _ _ => F8
        rename News _ _ _ _ => N8
        (try dsimp only)
        refine TurnEnd.split _ F8 N8 (offI2 _ _) ⟨⟨D, as, _, _, c4, setF (setF T j (T j ++ [(i : Int)])) i (T i ++ [(j : Int)]), _, _, rfl, hd, hD, ints_set (ints_set hv (tie_snoc (hv j hji) (by omega))) (tie_snoc (hv i hi) (by omega)), hg.tie hji hi hne (tie_set hne), ?_, e1, rfl⟩, e3, offI _ _⟩
        intro x hx
        have l1 := hl j hji
        have l2 := hl i hi
        have l3 := hl x hx
        unfold setF
        split
        · rw [List.length_append, List.length_singleton]; omega
        · split
          · rw [List.length_append, List.length_singleton]; omega
          · omega
      case _ =>
        rename Fr _ _ _ _ => F8
        rename News _ _ _ _ => N8
        (try dsimp only)
        exact TurnEnd.split _ F8 N8 (offI2 _ _) ⟨⟨D, as, _, _, c4, T, _, _, rfl, hd, hD, hv, hg, fun x hx => by have := hl x hx; omega, e1, rfl⟩, e3, offI _ _⟩
    · rintro m₂ nx h2 tk2 ⟨hj, e3, hofI⟩ F4 N4
      clear F2 N2 F3 N3 R3
      k_unmd
      k_fold
      (try dsimp only)
      k_steps
      (try dsimp only)
      exact TurnEnd.split nx F4 N4 hofI (hj.mono (by omega))
  · rintro m₁ nx h tk ⟨D, as, vs, cs, c4, T, x1, t1, rfl, hd, hD, hv, hg, hl, e1, e2⟩ F2 N2
    clear F1 N1 R1
    k_unmd
    k_fold
    (try dsimp only)
    k_steps
    (try dsimp only)
    rw [List.append_nil] at N2
    exact Back.intro F2 ⟨_, _, _, _, _, _, _, _, _, _, _, _, _, _, _, _, _, _, rfl, Fresh.of_news N2 fun p hp => hp, ⟨hv 0 (by decide), hv 1 (by decide), hv 2 (by decide), hv 3 (by decide)⟩, hg.congr fun x hx => by (rcases four hx with rfl | rfl | rfl | rfl <;> rfl),
      ⟨Nat.le_trans (hl 0 (by decide)) (by decide), Nat.le_trans (hl 1 (by decide)) (by decide), Nat.le_trans (hl 2 (by decide)) (by decide), Nat.le_trans (hl 3 (by decide)) (by decide)⟩⟩
end Mine
end
section
open PySem PySem.W PySem.Calls PyProof.Rows Mine
set_option Elab.async false
set_option maxRecDepth 100000
set_option maxHeartbeats 4000000
namespace Mine

def taJ (xs : List Str) (i : Nat) (ys : List Value) (nx : List (Addr × Obj)) : Prop := nx = [] ∧ IntsAre ys ((List.range i).map fun k => (lb xs (k + 1) : Int))
def taI (xs : List Str) (j i : Nat) (ys : List Value) (nx : List (Addr × Obj)) : Prop := nx = [] ∧ IntsAre ys (((List.range i).filter (isB xs j)).map fun k : Nat => (k : Int))
theorem table_spec (w : World) (mg mb : Str → Option Value) : PySem.Challenge.rw_wn0034_01.row.prog = pr1 → ∀ s : Shared, (hd1.heap_39 w.params).In s.heap → TR1 mg mb s.heap →
    ∀ (l : Addr) (vs : List Value) (xs : List Str), s.heap.IsList l vs.toArray → StrsAre vs xs → okS xs → xs.length ≤ 2 ^ 10 →
    Fn 30 pr1 w 106 [.ref l] (fun v h => ∃ z ts n, v = .ref z ∧ h.get? z = some (W.listOf ts.toArray n) ∧ IntsAre ts (tabF xs)) s := by
  k_with_none
  k_with "call ref" => refine Halt.out ?_
  k_with "pyIter ref" => refine Halt.out ?_
  k_with "call builtin:list.append" => (k_here; k_dflt (refine append_own (by k_asm) (by k_asm) (by k_upd) (by ((try simp only [List.length_append, List.length_cons, List.length_nil]); omega)) ?_; k_whole); intro h' F' N'; (try k_sweep))
  k_with "loadName" => (k_here; k_dflt (refine loadX_L (by k_asm) (by assumption) ?_; k_whole))
  k_with "eval Name" => (k_here; (with_reducible show wpAny _ _ (eval (Expr.Name _ _) (compEnvC _ _ _ _)) _ _ _); k_dflt (first | refine ldT_global (by k_asm) (by assumption) (by assumption) (by k_is) ?_ | refine ldT_built (by k_asm) (by assumption) (by assumption) (by k_is) (by boot_by_name) (by decide) ?_))
  k_with "subscriptTail Name Slice ref ref" => refine Halt.out ?_
  k_with "compareOp Eq ref ref" => refine Halt.out ?_
  k_with "call builtin:max" => refine Halt.out ?_
  k_with "eval ListComp" => k_dflt (refine Comp_ev (by with_unfolding_all rfl) (by rfl) (by decide) ?_)
  k_with "exec Assign cons ListComp" => k_dflt (refine Comp_as (by with_unfolding_all rfl) (by with_unfolding_all rfl) (by rfl) (by decide) ?_)
  k_with "exec For Name Call cons nil" => k_dflt (refine wpAny_For ?_)
  k_with "eval Name" => (k_here; k_dflt (refine nameX_L (by k_asm) (by assumption) ?_; k_whole))
  k_fill
  intro _ s X T l vs xs hl hx hok hb
  k_dflt (refine' Fn.of_bodyC (binds := [(Str.ofString "row", .ref l)]) (K := hd1.heap_39 w.params) X T.nolimit ?k1 ?k2 ?k3 ?k4 ?k5 ?_ ?c1 ?c2 ?c3)
  case k1 => k_is
  case k2 => k_is
  case k3 => exact BindsTo.of_eq rfl
  case k4 => exact rfl
  case k5 => decide
  case c1 => exact rfl
  case c2 => exact rfl
  case c3 => exact rfl
  intro dp un fr gd L h₁ tk cells hdp hun F N Y
  k_cells Y
  (try dsimp only)
  k_unmd
  k_fold
  k_steps
  refine ⟨?_⟩
  rename IsRange _ _ _ _ _ _ _ _ => R1
  rename Fr _ _ _ _ => F1
  rename News _ _ _ _ => N1
  rename StrsAre _ _ => hx
  have hxl := hx.length
  refine rangeC_J (n := xs.length) (nx := []) (old := [_]) (taJ xs) (fun g => compK_ev) rfl R1 (small_one (by omega) (by omega) (by omega) (by omega)) ?_ (by rw [sizeLine_eq]; omega) F1 N1 ⟨rfl, .nil⟩ ?_ ?_
  · rw [rangeSize_one]; split <;> omega
  · rintro i t I oI C oC c oc D m₂ ys nx h tk hi ⟨rfl, hy⟩ hC hd F2 N2 off2 lt2
    clear F1 N1 R1
    refine TestsP.nil_if ?_
    simp only [List.nil_append] at N2
    dsimp only
    k_steps
    refine ⟨?_⟩
    rename IsRange _ _ _ _ _ _ _ _ => R3
    rename Fr _ _ _ _ => F3
    rename News _ _ _ _ => N3
    refine range_J (n := i + 1) (nx := []) (old := [_, _, _, _, _]) (taI xs (i + 1)) (fun g => compK_ev) rfl R3 (small_one (by omega) (by omega) (by omega) (by omega)) ?_ (by rw [sizeLine_eq]; omega) F3 N3 ⟨rfl, .nil⟩ ?_ ?_
    · rw [rangeSize_one]; split <;> omega
    · rintro k t' I' oI' C' oC' D2 m₃ zs nx2 h2 tk2 hk ⟨rfl, hz⟩ hC2 hm₃ F4 N4 off4 ne4 lt4
      clear F3 N3 R3
      refine TestsP.one_if ?_
      simp only [List.nil_append] at N4
      dsimp only
      k_steps
      refine ⟨?_⟩
      refine slice_K F4 N4 (hl.at fun o e => F4.keep _ o e) .none (.int _ _) (by omega) fun Da h5 F5 N5 lt5 => ?_
      k_lt lt5
      dsimp only
      k_steps
      refine ⟨?_⟩
      rename Fr _ _ _ _ => F6
      rename News _ _ _ _ => N6
      refine slice_K F6 N6 (hl.at fun o e => F6.keep _ o e) (.int _ _) (.int _ _) (by omega) fun Db h7 F7 N7 lt7 => ?_
      k_lt lt7
      dsimp only
      k_steps
      refine ⟨?_⟩
      rename Fr _ _ _ _ => F8
      rename News _ _ _ _ => N8
      rw [pick_to (by omega)] at N8
      rw [pick_of (by omega) (by omega)] at N8
      refine eq_strsK (listO_is (N8.get (.tail _ (.head _)))) (hx.take' _) (listO_is (N8.get (.head _))) ((hx.take' _).drop' _) (fun x h => hok x (List.mem_of_mem_take h)) (fun x h => hok x (List.mem_of_mem_take (List.mem_of_mem_drop h))) (by simp only; omega) ?_
      have e1 : (0 + (k : Int)).toNat = k := by omega
      have e2 : (1 + (i : Int)).toNat = i + 1 := by omega
      have e3 : (1 + (i : Int) - (0 + (k : Int))).toNat = i + 1 - k := by omega
      rw [e1, e2, e3]
      k_steps
      case _ =>
        rename List.take _ xs = _ => q
        have hB : isB xs (i + 1) k = true := decide_eq_true q
        rename Fr _ _ _ _ => F9
        rename News _ _ _ _ => N9
        refine CTurn.n0 F9 N9 (fun p hp => List.mem_cons_of_mem _ (List.mem_cons_of_mem _ hp)) ⟨rfl, ?_⟩
        rw [List.range_succ, List.filter_append, List.filter_cons, if_pos hB, List.filter_nil, List.map_append, List.map_cons, List.map_nil, Int.zero_add]
        exact hz.append (.cons _ _ .nil)
      case _ =>
        rename ¬ List.take _ xs = _ => q
        have hB : ¬ isB xs (i + 1) k = true := fun h => q (of_decide_eq_true h)
        rename Fr _ _ _ _ => F9
        rename News _ _ _ _ => N9
        refine CTurn.n0 F9 N9 (fun p hp => List.mem_cons_of_mem _ (List.mem_cons_of_mem _ hp)) ⟨rfl, ?_⟩
        rw [List.range_succ, List.filter_append, List.filter_cons, if_neg hB, List.filter_nil, List.append_nil]
        exact hz
    · rintro D2 h2 tk2 zs nx2 ⟨rfl, hz⟩ F4 N4 off4
      clear F3 N3 R3
      simp only [List.nil_append] at N4
      dsimp only
      k_steps
      refine ⟨?_⟩
      have hm := lb_mem xs (j := i + 1) (by omega)
      have h0 : ((lb xs (i + 1) : Nat) : Int) ∈ ((List.range (i + 1)).filter (isB xs (i + 1))).map fun k : Nat => (k : Int) :=
        List.mem_map.mpr ⟨_, List.mem_filter.mpr ⟨List.mem_range.mpr hm.1, hm.2⟩, rfl⟩
      refine max_list_N rfl F4 N4 (listO_is (N4.get (.head _))) hz (List.length_pos_of_mem h0) fun h5 M t5 tk5 F5 N5 hM hle => ?_
      have eM : M = ((lb xs (i + 1) : Nat) : Int) := by
        have h1 := hle _ h0
        obtain ⟨q, hq, rfl⟩ := List.mem_map.mp hM
        obtain ⟨hq1, hq2⟩ := List.mem_filter.mp hq
        have := lb_ge xs (List.mem_range.mp hq1) hq2
        omega
      subst eM
      dsimp only
      refine CTurn.n0 F5 N5 (fun p hp => List.mem_cons_of_mem _ hp) ⟨rfl, ?_⟩
      rw [List.range_succ, List.map_append]
      exact hy.append (.cons _ _ .nil)
  · rintro D h tk ys nx ⟨rfl, hy⟩ F2 N2 off2
    clear F1 N1 R1
    simp only [List.nil_append] at N2
    dsimp only
    k_steps
    exact Back.intro F2 ⟨_, _, _, rfl, N2.get (.head _), hy⟩
end Mine
end
section
open PySem PySem.W PySem.Calls PyProof.Rows Mine
set_option Elab.async false
set_option maxRecDepth 100000
set_option maxHeartbeats 4000000
namespace Mine

theorem ints_snoc {vs : List Value} {ns : List Int} {a b : Int} {t : Tok} (h : IntsAre vs ns) (e : a = b) : IntsAre (vs ++ [.int a t]) (ns ++ [b]) := h.append (e ▸ .cons _ _ .nil)
abbrev names4 : List Str := [Str.ofString "a", Str.ofString "A", Str.ofString "*", Str.ofString ""]
theorem news_cut2 {h₀ h : Heap} {L : Addr} {a b c : Addr × Obj} {r : List (Addr × Obj)} (N : News h₀ L h (a :: b :: c :: r)) : News h₀ L h (a :: r) := fun p hp => N p (by
  rcases List.mem_cons.mp hp with rfl | hp
  · exact .head _
  · exact .tail _ (.tail _ (.tail _ hp)))
theorem news_cut43 {h₀ h : Heap} {L : Addr} {a b c d e f g : Addr × Obj} {r : List (Addr × Obj)} (N : News h₀ L h (a :: b :: c :: d :: e :: f :: g :: r)) : News h₀ L h (a :: b :: c :: d :: r) := fun p hp => N p (by
  simp only [List.mem_cons] at hp ⊢
  rcases hp with h | h | h | h | h <;> simp [h])
theorem news_cut44 {h₀ h : Heap} {L : Addr} {a b c d e f g g2 : Addr × Obj} {r : List (Addr × Obj)} (N : News h₀ L h (a :: b :: c :: d :: e :: f :: g :: g2 :: r)) : News h₀ L h (a :: b :: c :: d :: r) := fun p hp => N p (by
  simp only [List.mem_cons] at hp ⊢
  rcases hp with h | h | h | h | h <;> simp [h])
abbrev nm (x : Int) : Str := names4.getD x.toNat Str.empty
def poJ (row : List Int) (k : Int) (ln D : Addr) (c5 : Addr × Obj) (cx : Addr) (c3 c2 c1 : Addr × Obj) (i : Nat) (m : Str → Option Value) (nx : List (Addr × Obj)) : Prop :=
  ∃ R rts rc lts lc ox, nx = [(R, W.listOf (List.toArray rts) rc), (D, W.listOf (List.toArray lts) lc), c5, (cx, ox), c3, c2, c1] ∧ (R ≠ D ∧ R ≠ c5.1 ∧ R ≠ cx ∧ R ≠ c3.1 ∧ R ≠ c2.1 ∧ R ≠ c1.1) ∧ IntsAre lts (rootR row k i).1 ∧ StrsAre rts ((rootR row k i).2.map nm) ∧
    (∃ v, ox.data = .cell v) ∧ m (Str.ofString "root") = some (.ref R) ∧ m (Str.ofString "names") = some (.ref ln)
theorem news_dup {h₀ h : Heap} {L : Addr} {a b c d : Addr × Obj} {r : List (Addr × Obj)} (N : News h₀ L h (a :: b :: c :: d :: r)) : News h₀ L h ([a, b, c, d] ++ (a :: b :: c :: d :: r)) := fun p hp => N p (by
  rcases List.mem_append.mp hp with hp | hp
  · simp only [List.mem_cons, List.not_mem_nil, or_false] at hp ⊢
    rcases hp with h | h | h | h <;> simp [h]
  · exact hp)
def mgJ (w : World) (root : List Int) (ln z cx : Addr) (j : Nat) (m : Str → Option Value) (nx : List (Addr × Obj)) : Prop :=
  ∃ p dp p1 p2 b1 b2 t1 t2 t3 t4 rules, nx = [(p, instObj 59 dp), (dp, entryD w (.ref p1) (.ref p2) .none .none t1 t2 t3 t4), (p1, W.listOf (List.toArray []) b1), (p2, W.listOf (List.toArray rules) b2)] ∧
    StrsAre rules ((List.replicate (j + 1) root).flatten.map nm) ∧ p2 ≠ cx ∧ m (Str.ofString "power") = some (.ref p) ∧ m (Str.ofString "first") = some (.ref z) ∧ m (Str.ofString "names") = some (.ref ln)
theorem rep_length {α : Type} (l : List α) (j : Nat) : (List.replicate j l).flatten.length = j * l.length := by
  rw [List.length_flatten, List.map_replicate, List.sum_replicate_nat]
def lpJ (T : Nat → List Int) (row xs : List Int) (ln cx : Addr) (c3 P : Addr × Obj) (i : Nat) (m : Str → Option Value) (nx : List (Addr × Obj)) : Prop :=
  ∃ E vs c ox rest, nx = [(E, W.listOf (List.toArray vs) c), (cx, ox), c3, P] ∧ (E ≠ cx ∧ E ≠ c3.1 ∧ E ≠ P.1) ∧ IntsAre vs rest ∧ delAll T (xs.take i) row = some rest ∧ (∃ v, ox.data = .cell v) ∧ m (Str.ofString "rest") = some (.ref E) ∧ m (Str.ofString "names") = some (.ref ln)
theorem news_lp {h₀ h : Heap} {L : Addr} {e p pd p1 p2 z dz z1 z2 c5 cx c3 : Addr × Obj} {q : List (Addr × Obj)} (N : News h₀ L h (e :: p :: pd :: p1 :: p2 :: z :: dz :: z1 :: z2 :: c5 :: cx :: c3 :: q)) : News h₀ L h ([e, cx, c3, p2] ++ []) := fun x hx => N x (by
  simp only [List.cons_append, List.nil_append, List.mem_cons, List.not_mem_nil, or_false] at hx ⊢
  rcases hx with h | h | h | h <;> simp [h])
theorem ints_erase {vs : List Value} {ns : List Int} (h : IntsAre vs ns) (i : Nat) : IntsAre (vs.eraseIdx i) (ns.eraseIdx i) := by
  rw [List.eraseIdx_eq_take_drop_succ, List.eraseIdx_eq_take_drop_succ]
  exact (h.take i).append (h.drop (i + 1))
theorem news_d3 {h₀ h : Heap} {L : Addr} {a b c : Addr × Obj} {r : List (Addr × Obj)} (N : News h₀ L h (a :: b :: c :: r)) : News h₀ L h r := fun p hp => N p (.tail _ (.tail _ (.tail _ hp)))
theorem nm_get {x : Int} (h : 0 ≤ x ∧ x < 4) : names4[x.toNat]? = some (nm x) := by
  have e : x = 0 ∨ x = 1 ∨ x = 2 ∨ x = 3 := by omega
  rcases e with rfl | rfl | rfl | rfl <;> rfl
theorem nm_no {x : Int} (h : 0 ≤ x ∧ x < 4) : ∀ i, i < x.toNat → (names4.getD i Str.empty == nm x) = false := by
  have e : x = 0 ∨ x = 1 ∨ x = 2 ∨ x = 3 := by omega
  rcases e with rfl | rfl | rfl | rfl <;> decide +kernel
theorem strs_of {vs : List Value} {xs : List Int} {f : Int → Str} (h : StrsAre vs (xs.map f)) {i : Nat} {v : Value} (hv : vs[i]? = some v) : ∃ x t, v = .str (f x) t ∧ xs[i]? = some x := by
  have hi : i < vs.length := by
    by_cases q : i < vs.length
    · exact q
    · rw [List.getElem?_eq_none (by omega)] at hv; cases hv
  have hl := h.length
  rw [List.length_map] at hl
  have hx : (xs.map f)[i]? = some (f xs[i]) := by rw [List.getElem?_map, List.getElem?_eq_getElem]; rfl
  obtain ⟨t, e⟩ := h.at hx
  rw [hv] at e
  exact ⟨_, t, Option.some.inj e, List.getElem?_eq_getElem _⟩
theorem power_spec (w : World) (mg mb : Str → Option Value) : PySem.Challenge.rw_wn0034_01.row.prog = pr1 → ∀ s : Shared, (hd1.heap_39 w.params).In s.heap → TR1 mg mb s.heap →
    ∀ (l lt ln : Addr) (vr vn : List Value) (row : List Int) (T0 : Nat → List Int) (k : Int) (t : Tok) (nr nn : Nat), s.heap.get? l = some (W.listOf vr.toArray nr) → IntsAre vr row → row.length ≤ 18 → (∀ x ∈ row, 0 ≤ x ∧ x < 4) → 1 ≤ k → k ≤ 18 → TiesAre s.heap lt T0 → s.heap.get? ln = some (W.listOf vn.toArray nn) → StrsAre vn names4 →
    Fn 60 pr1 w 125 [.ref l, .int k t, .ref lt, .ref ln] (fun v h => v = .bool (powerP T0 row k)) s := by
  k_with_none
  k_with "call ref" => refine Halt.out ?_
  k_with "pyIter ref" => refine Halt.out ?_
  k_with "call builtin:list.append" => (k_here; k_dflt (refine append_own (by k_asm) (by k_asm) (by k_upd) (by ((try simp only [List.length_append, List.length_cons, List.length_nil]); omega)) ?_; k_whole); intro h' F' N'; (try k_sweep))
  k_with "loadName" => (k_here; k_dflt (refine loadX_L (by k_asm) (by assumption) ?_; k_whole))
  k_with "exec For Name Call cons nil" => k_dflt (refine wpAny_For ?_)
  k_with "exec For Name Name cons nil" => k_dflt (refine wpAny_For ?_)
  k_with "exec For Name Attribute cons nil" => k_dflt (refine wpAny_For ?_)
  k_with "eval Name" => (k_here; (with_reducible show wpAny _ _ (eval (Expr.Name _ _) (compEnvC _ _ _ _)) _ _ _); k_dflt (first | refine ldT_global (by k_asm) (by assumption) (by assumption) (by k_is) ?_ | refine ldT_built (by k_asm) (by assumption) (by assumption) (by k_is) (by boot_by_name) (by decide) ?_))
  k_with "getMethod ref" => refine Halt.out ?_
  k_with "binaryOp FloorDiv int int" => refine Halt.out ?_
  k_with "call builtin:list.count" => refine Halt.out ?_
  k_with "call builtin:list.index" => refine Halt.out ?_
  k_with "call type:list" => refine Halt.out ?_
  k_with "subscriptTail Name Slice ref ref" => refine Halt.out ?_
  k_with "delItem ref int" => refine Halt.out ?_
  k_with "eval ListComp" => k_dflt (refine Comp_ev (by with_unfolding_all rfl) (by rfl) (by decide) ?_)
  k_with "exec Assign cons ListComp" => k_dflt (refine Comp_as (by with_unfolding_all rfl) (by with_unfolding_all rfl) (by rfl) (by decide) ?_)
  k_with "exec For Name Subscript cons nil" => k_dflt (refine wpAny_For ?_)
  k_with "eval Name" => (k_here; k_dflt (refine nameX_L (by k_asm) (by assumption) ?_; k_whole))
  k_fill
  intro _ s X T l lt ln vr vn row T0 k t nr nn hl hr hb hr4 hk1 hk2 hT hln hn
  k_dflt (refine' Fn.of_bodyC (binds := [(Str.ofString "row", .ref l), (Str.ofString "times", .int k t), (Str.ofString "ties", .ref lt), (Str.ofString "names", .ref ln)]) (K := hd1.heap_39 w.params) X T.nolimit ?k1 ?k2 ?k3 ?k4 ?k5 ?_ ?c1 ?c2 ?c3)
  case k1 => k_is
  case k2 => k_is
  case k3 => exact BindsTo.of_eq rfl
  case k4 => exact rfl
  case k5 => decide
  case c1 => exact rfl
  case c2 => exact rfl
  case c3 => exact rfl
  intro dp un fr gd L h₁ tk cells hdp hun F N Y
  k_cells Y
  (try dsimp only)
  k_unmd
  k_fold
  k_steps
  refine ⟨?_⟩
  rename IsRange _ _ _ _ _ _ _ _ => R1
  rename Fr _ _ _ _ => F1
  rename News _ _ _ _ => N1
  rename IntsAre _ row => hr
  refine range_J (n := 4) (nx := []) (old := [_, _, _, _, _]) (fun i ys nx => nx = [] ∧ IntsAre ys (leftP row k i)) (fun g => compK_ev) rfl R1 (small_one (by omega) (by omega) (by omega) (by omega)) rfl (by rw [sizeLine_eq]; omega) F1 N1 ⟨rfl, .nil⟩ ?_ ?_
  · rintro i t' I oI C oC D m₂ ys nx h tk2 hi ⟨rfl, hy⟩ hC hm₂ F2 N2 off2 ne2 lt2
    clear F1 N1 R1
    refine TestsP.nil_if ?_
    simp only [List.nil_append] at N2
    dsimp only
    k_steps
    refine ⟨?_⟩
    refine method_K (F2.keep _ _ hl) PySem.F.slot_list_count PySem.F.type_list_count ?_
    dsimp only
    k_steps
    refine ⟨?_⟩
    refine count_list_ints (listO_is (F2.keep _ _ hl)) hr ?_
    dsimp only
    k_steps
    refine ⟨?_⟩
    refine floordiv_int (by omega) ?_ (.inl (PyProof.noPylong_small (by omega)))
    dsimp only
    k_steps
    refine CTurn.n0 F2 N2 (fun p hp => hp) ⟨rfl, ?_⟩
    unfold leftP
    rw [List.range_succ, List.map_append]
    rw [Int.zero_add]
    exact hy.append (.cons _ _ .nil)
  · rintro D h tk2 ys nx ⟨rfl, hy⟩ F2 N2 off2
    clear F1 N1 R1
    have o1 := neN (off2 _ (.head _))
    have o2 := neN (off2 _ (.tail _ (.head _)))
    have o3 := neN (off2 _ (.tail _ (.tail _ (.head _))))
    have o4 := neN (off2 _ (.tail _ (.tail _ (.tail _ (.head _)))))
    have o5 := neN (off2 _ (.tail _ (.tail _ (.tail _ (.tail _ (.head _))))))
    dsimp only at o1 o2 o3 o4 o5
    simp only [List.nil_append] at N2
    dsimp only
    k_steps
    refine ⟨?_⟩
    rename IsRange _ _ _ _ _ _ _ _ => R3
    rename Fr _ _ _ _ => F3
    rename News _ _ _ _ => N3
    rename _ = Data.cell (some (Value.ref D)) => dl
    refine range_J (n := 4) (nx := []) (old := [_, _, _, _, _, _]) (fun i ys nx => nx = [] ∧ IntsAre ys (unevenP row k i)) (fun g => compK_ev) rfl R3 (small_one (by omega) (by omega) (by omega) (by omega)) rfl (by rw [sizeLine_eq]; omega) F3 N3 ⟨rfl, .nil⟩ ?_ ?_
    · rintro i t' I oI C oC D2 m₂ zs nx2 h2 tk3 hi ⟨rfl, hz⟩ hC hm₂ F4 N4 off4 ne4 lt4
      clear F3 N3 R3
      refine TestsP.one_if ?_
      simp only [List.nil_append] at N4
      dsimp only
      have hyl : (leftP row k 4).length = 4 := by simp [leftP]
      k_steps
      refine ⟨?_⟩
      refine method_K (F4.keep _ _ hl) PySem.F.slot_list_count PySem.F.type_list_count ?_
      dsimp only
      k_steps
      refine ⟨?_⟩
      refine count_list_ints (listO_is (F4.keep _ _ hl)) hr ?_
      dsimp only
      rw [show (0 + (i : Int)).toNat = i by omega, show (0 + (i : Int)) = i by omega]
      k_steps
      case _ =>
        rename _ * k ≠ _ => q
        refine CTurn.n0 F4 N4 (fun p hp => hp) ⟨rfl, ?_⟩
        unfold unevenP
        rw [List.range_succ, List.filter_append, List.filter_cons, if_pos (decide_eq_true q), List.filter_nil, List.map_append, List.map_cons, List.map_nil]
        exact ints_snoc hz (by omega)
      case _ =>
        rename _ * k = _ => q
        refine CTurn.n0 F4 N4 (fun p hp => hp) ⟨rfl, ?_⟩
        unfold unevenP
        rw [List.range_succ, List.filter_append, List.filter_cons, if_neg (by rw [decide_eq_true_eq]; exact fun h => h q), List.filter_nil, List.append_nil]
        exact hz
    · rintro D2 h2 tk3 zs nx2 ⟨rfl, hz⟩ F4 N4 off4
      clear F3 N3 R3
      have q1 := neN (off4 _ (.head _))
      dsimp only at q1
      simp only [List.nil_append] at N4
      dsimp only
      k_steps
      case' _ =>
        refine ⟨?_⟩
        rename decide (unevenP row k 4 = []) = true => heven
        rename Fr _ _ _ _ => F5
        rename News _ _ _ _ => N5
        replace N5 := news_cut2 N5
        refine For_list_J (news := [_, _, _, _, _, _, _]) (old := []) (poJ row k ln D _ _ _ _ _) rfl (listO_is (F5.keep _ _ hl)) F5 N5 ⟨_, [], _, _, _, _, rfl, ⟨by k_ne, by k_ne, by k_ne, by k_ne, by k_ne, by k_ne⟩, hy, .nil, ⟨_, by assumption⟩, rfl, rfl⟩ ?_ ?_ ?_
        · intro i m₁ nx h7 _ _ F6 _ o e
          have := F6.keep _ _ hl
          rw [F5.keep _ _ hl] at e
          rw [← e]; exact this
        · rintro i v m₁ nx h tk4 I oI hi hv ⟨R, rts, rc, lts, lc, ox, rfl, hne, hlf, hrt, ⟨vx, hox⟩, e1, e2⟩ hI hoff ⟨vs2, hoI⟩ hlh F6 N6
          obtain ⟨x, tx, rfl, hxi⟩ := hr.at _ _ hv
          have hx4 := hr4 x (List.mem_of_getElem? hxi)
          obtain ⟨d1, d2, d3, d4, d5, d6⟩ := hne
          replace d1 := neN d1
          replace d2 := neN d2
          replace d3 := neN d3
          replace d4 := neN d4
          replace d5 := neN d5
          replace d6 := neN d6
          have f1 := neN (hoff _ (.head _))
          have f2 := neN (hoff _ (.tail _ (.head _)))
          have f3 := neN (hoff _ (.tail _ (.tail _ (.head _))))
          have f4 := neN (hoff _ (.tail _ (.tail _ (.tail _ (.head _)))))
          have f5 := neN (hoff _ (.tail _ (.tail _ (.tail _ (.tail _ (.head _))))))
          have f6 := neN (hoff _ (.tail _ (.tail _ (.tail _ (.tail _ (.tail _ (.head _)))))))
          have f7 := neN (hoff _ (.tail _ (.tail _ (.tail _ (.tail _ (.tail _ (.tail _ (.head _))))))))
          dsimp only at d1 d2 d3 d4 d5 d6 f1 f2 f3 f4 f5 f6 f7
          have hlfl := rootR_length row k i
          have hll := hlf.length
          have hrl := hrt.length
          rw [List.length_map] at hrl
          have hrle := rootR_le row k i
          have hlnL := listO_is hln
          have hn4 : names4.length = 4 := rfl
          simp only [List.cons_append, List.nil_append] at N6
          k_unmd
          k_fold
          dsimp only
          k_steps
          case' _ =>
            refine ⟨?_⟩
            rename News _ _ _ _ => N7
            refine method_K (N7.get (.head _)) PySem.F.slot_list_append PySem.F.type_list_append ?_
            dsimp only
            k_steps
            have q : 0 < (rootR row k i).1.getD x.toNat 0 := by omega
            rename Fr _ _ _ _ => F8
            rename News _ _ _ _ => N8
            rename IntsAre (lts.set _ _) _ => I8
            dsimp only
            refine TurnEnd.split (nx := [_, _, _, _, _, _, _]) F8 N8 (off1 f1 (off1 f2 (off1 f3 (off1 f4 (off1 f5 (off1 f6 (off1 f7 off0))))))) ⟨R, _, _, _, _, _, rfl, ⟨d1, d2, d3, d4, d5, d6⟩, ?_, ?_, ⟨_, by assumption⟩, e1, e2⟩
            · rw [rootR_next hxi, rStep, if_pos q]; exact I8
            · rw [rootR_next hxi, rStep, if_pos q, List.map_append]
              rename StrsAre rts _ => hrt
              exact hrt.append' (.cons _ _ .nil)
          case _ =>
            have q : ¬ 0 < (rootR row k i).1.getD x.toNat 0 := by omega
            rename Fr _ _ _ _ => F8
            rename News _ _ _ _ => N8
            dsimp only
            refine TurnEnd.split (nx := [_, _, _, _, _, _, _]) F8 N8 (off1 f1 (off1 f2 (off1 f3 (off1 f4 (off1 f5 (off1 f6 (off1 f7 off0))))))) ⟨R, _, _, _, _, _, rfl, ⟨d1, d2, d3, d4, d5, d6⟩, ?_, ?_, ⟨_, by assumption⟩, e1, e2⟩
            · rw [rootR_next hxi, rStep, if_neg q]; exact hlf
            · rw [rootR_next hxi, rStep, if_neg q]
              rename StrsAre rts _ => hrt
              exact hrt
        · rintro m₁ nx h tk4 ⟨R, rts, rc, lts, lc, ox, rfl, hne, hlf, hrt, ⟨vx, hox⟩, e1, e2⟩ F6 N6
          obtain ⟨d1, d2, d3, d4, d5, d6⟩ := hne
          replace d1 := neN d1
          replace d2 := neN d2
          replace d3 := neN d3
          replace d4 := neN d4
          replace d5 := neN d5
          replace d6 := neN d6
          dsimp only at d1 d2 d3 d4 d5 d6
          rw [hr.length] at hrt hlf
          rw [rootR_full] at hrt
          simp only [List.cons_append, List.nil_append] at N6
          k_unmd
          k_fold
          dsimp only
          k_steps
          refine ⟨?_⟩
          rename StrsAre rts _ => hrt
          rename StrsAre vn _ => hn
          rename Fr _ _ _ _ => F7
          rename News _ _ _ _ => N7
          have hrl := hrt.length
          rw [List.length_map] at hrl
          have hrle := rootR_le row k row.length
          rw [rootR_full] at hrle
          refine call_Fn (record_spec w mg mb rfl _ (X.keeps F7.keep) (T.keeps F7.keep) _ _ [] rts _ _ (N7.get (.head _)) (N7.get (.tail _ (.head _))) (by simp) (by omega)) rfl (by simp only; omega) (by simp only; omega) ?_
          rintro v h8 tk8 hk8 ⟨z, rfl, ⟨dz, z1, z2, b1, b2, t1, t2, t3, t4, fz⟩⟩
          have F8 := F7.keeps hk8
          have N8 := fz.news F7 (N7.grown hk8)
          have z2ne : z2 ≠ L + 1 + 1 + 1 + 1 := fz.ne (p := (z2, _)) (.tail _ (.tail _ (.tail _ (.head _)))) (N7.get (.tail _ (.tail _ (.tail _ (.tail _ (.head _))))))
          simp only [List.cons_append, List.nil_append] at N8
          dsimp only
          k_steps
          refine ⟨?_⟩
          rename IsRange _ _ _ _ _ _ _ _ => R9
          rename Fr _ _ _ _ => F9
          rename News _ _ _ _ => N9
          replace N9 := news_cut43 N9
          have kn : k = ((k.toNat : Nat) : Int) := by omega
          refine For_range_J (n := (k - 1).toNat) (news := [_, _, _, _]) (old := [_, _, _, _, _, _, _, _, _]) (mgJ w (rootP row k) ln z (L + 1 + 1 + 1 + 1)) rfl R9 (small_one (by omega) (by omega) (by omega) (by omega)) ?_ F9 (news_dup N9) ⟨z, dz, z1, z2, b1, b2, t1, t2, t3, t4, rts, rfl, by simpa using hrt, z2ne, rfl, rfl, by assumption⟩ ?_ ?_
          · rw [rangeSize_one]; split <;> omega
          · clear N9 F9
            rintro j tj m₂ nx h9 tk9 I oI hj ⟨p, pd, p1, p2, e1, e2, u1, u2, u3, u4, rules, rfl, hru, hp2, g1, g2, g3⟩ hI hoff ⟨vs2, hoI⟩ F10 N10
            have hrul := hru.length
            rw [List.length_map, rep_length] at hrul
            have hrul2 : rules.length ≤ 18 * 18 := by
              rw [hrul]; exact Nat.mul_le_mul (by omega) (by omega)
            simp only [List.cons_append, List.nil_append] at N10
            k_unmd
            k_fold
            dsimp only
            k_steps
            refine ⟨?_⟩
            rename Fr _ _ _ _ => F11
            rename News _ _ _ _ => N11
            refine call_Fn (merge_spec w mg mb rfl _ (X.keeps F11.keep) (T.keeps F11.keep) p z [] rules [] rts [] [] ⟨pd, p1, p2, _, _, _, _, _, _, N11.get (.head _), N11.get (.tail _ (.head _)), N11.get (.tail _ (.tail _ (.head _))), N11.get (.tail _ (.tail _ (.tail _ (.head _))))⟩
              ⟨dz, z1, z2, _, _, _, _, _, _, N11.get (.tail _ (.tail _ (.tail _ (.tail _ (.tail _ (.head _)))))), N11.get (.tail _ (.tail _ (.tail _ (.tail _ (.tail _ (.tail _ (.head _))))))), N11.get (.tail _ (.tail _ (.tail _ (.tail _ (.tail _ (.tail _ (.tail _ (.head _)))))))), N11.get (.tail _ (.tail _ (.tail _ (.tail _ (.tail _ (.tail _ (.tail _ (.tail _ (.head _)))))))))⟩ .nil .nil (by decide) (by decide) (by omega)) rfl (by simp only; omega) (by simp only; omega) ?_
            rintro v h12 tk12 hk12 ⟨y, rfl, ⟨dy, y1, y2, v1, v2, w1, w2, w3, w4, fy⟩⟩
            have F12 := F11.keeps hk12
            have N12 := fy.news F11 (N11.grown hk12)
            have gI := N11.get (a := I) (o := oI) (.tail _ (.tail _ (.tail _ (.tail _ (.head _)))))
            have gx := N11.get (.tail _ (.tail _ (.tail _ (.tail _ (.tail _ (.tail _ (.tail _ (.tail _ (.tail _ (.tail _ (.head _)))))))))))
            have y2ne : y2 ≠ L + 1 + 1 + 1 + 1 := fy.ne (p := (y2, _)) (.tail _ (.tail _ (.tail _ (.head _)))) gx
            have yI := fun q hq => fy.ne (p := q) hq gI
            simp only [List.cons_append, List.nil_append] at N12
            replace N12 := news_cut44 N12
            dsimp only
            k_steps
            rename Fr _ _ _ _ => F13
            rename News _ _ _ _ => N13
            dsimp only
            refine TurnEnd.split (nx := [_, _, _, _]) F13 N13 yI ⟨y, dy, y1, y2, _, _, _, _, _, _, _, rfl, ?_, y2ne, rfl, g2, g3⟩
            rw [List.replicate_succ', List.flatten_append, List.map_append]
            have hrt2 : StrsAre rts (([rootP row k] : List (List Int)).flatten.map nm) := by simpa using hrt
            exact hru.append' hrt2
          · clear N9 F9
            rintro m₂ nx h9 tk9 ⟨p, pd, p1, p2, e1, e2, u1, u2, u3, u4, rules, rfl, hru, hp2, g1, g2, g3⟩ F10 N10
            simp only [List.cons_append, List.nil_append] at N10
            k_unmd
            k_fold
            dsimp only
            k_steps
            refine ⟨?_⟩
            rename Fr _ _ _ _ => F11
            rename News _ _ _ _ => N11
            refine listcopy_K F11 N11 (listO_is (F11.keep _ _ hl)) (by have := hr.length; omega) fun E c12 h12 F12 N12 lt12 => ?_
            k_lt lt12
            dsimp only
            k_steps
            refine ⟨?_⟩
            rename Fr _ _ _ _ => F13
            rename News _ _ _ _ => N13
            have hrul := hru.length
            rw [List.length_map, rep_length] at hrul
            have ek : (k - 1).toNat + 1 = k.toNat := by omega
            rw [ek] at hru
            have l3 : (@Ne Nat E (L + 1 + 1 + 1 + 1)) := by omega
            have l4 : (@Ne Nat E (L + 1 + 1 + 1)) := by omega
            have l5 : (@Ne Nat E p2) := by omega
            have N15 := news_lp N13
            clear F12 N12 lt12 F11 N11 F8 N8 F7 N7 N13
            refine For_list_J (news := [_, _, _, _]) (old := []) (lpJ T0 row (List.replicate k.toNat (rootP row k)).flatten ln (L + 1 + 1 + 1 + 1) _ _) rfl (listO_is (N15.get (.tail _ (.tail _ (.tail _ (.head _)))))) F13 N15 ⟨E, _, _, _, _, rfl, ⟨neN l3, neN l4, neN l5⟩, hr, rfl, ⟨_, by assumption⟩, rfl, by assumption⟩ ?_ ?_ ?_
            · rintro i m₁ nx h14 _ ⟨E, vs, c, ox, rest, rfl, _⟩ F14 N14 o e
              rw [N15.get (.tail _ (.tail _ (.tail _ (.head _))))] at e
              cases e
              exact N14.get (.tail _ (.tail _ (.tail _ (.head _))))
            · rintro i v m₁ nx h14 tk14 I oI hi hv ⟨E, vs, c, ox, rest, rfl, ⟨hn1, hn2, hn3⟩, hre, hda, ⟨vx, hox⟩, e1, e2⟩ hI hoff ⟨vs2, hoI⟩ hlh F14 N14
              clear l3 l4 l5 N15 F13
              simp only [List.cons_append, List.nil_append] at N14
              have fE := neN (hoff _ (.head _))
              have fx := neN (hoff _ (.tail _ (.head _)))
              have f3 := neN (hoff _ (.tail _ (.tail _ (.head _))))
              have fp := neN (hoff _ (.tail _ (.tail _ (.tail _ (.head _)))))
              replace hn1 := neN hn1
              replace hn2 := neN hn2
              replace hn3 := neN hn3
              dsimp only at fE fx f3 fp hn1 hn2 hn3
              obtain ⟨x, tx, rfl, hx⟩ := strs_of hru hv
              have hx4 : 0 ≤ x ∧ x < 4 := by
                refine hr4 x ?_
                obtain ⟨r, hr1, hr2⟩ := List.mem_flatten.mp (List.mem_of_getElem? hx)
                rw [List.eq_of_mem_replicate hr1, ← rootR_full] at hr2
                exact mem_rootR hr2
              have hrel := hre.length
              have hrest : rest.length ≤ row.length := delAll_le hda
              k_unmd
              k_fold
              dsimp only
              k_steps
              refine ⟨?_⟩
              rename Fr _ _ _ _ => F15
              refine method_K (F15.keep _ _ hln) PySem.F.slot_list_index PySem.F.type_list_index ?_
              dsimp only
              k_steps
              refine ⟨?_⟩
              rename StrsAre vn _ => hn
              refine index_strs (F15.keep _ _ hln) hn x.toNat (nm_get hx4) (nm_no hx4) (by rw [hn.length]; decide) ?_
              dsimp only
              rw [show ((x.toNat : Nat) : Int) = x by omega]
              k_steps
              case' _ =>
                refine ⟨?_⟩
                rename (List.any rest _) = true => qin
                have hin := any_mem qin
                have hix : rest.idxOf x < rest.length := List.idxOf_lt_length_of_mem hin
                rename News _ _ _ _ => N15
                refine method_K (N15.get (.head _)) PySem.F.slot_list_index PySem.F.type_list_index ?_
                dsimp only
                k_steps
                refine ⟨?_⟩
                rename IntsAre vs rest => hre
                rename News _ _ _ _ => N16
                refine index_ints (N16.get (.head _)) hre hin (by omega) ?_
                dsimp only
                k_steps
                refine ⟨?_⟩
                rename News _ _ _ _ => N17
                rename Fr _ _ _ _ => F17
                refine slice_K F17 N17 (listO_is (N17.get (.head _))) .none (.int _ _) (by omega) fun D5 h18 F18 N18 lt18 => ?_
                k_lt lt18
                rw [pick_to (by omega)] at N18
                dsimp only
                k_steps
                refine ⟨?_⟩
                rw [show ((rest.idxOf x : Nat) : Int).toNat = rest.idxOf x by omega] at N18
                have I5 := hre.take (rest.idxOf x)
                have l5 := I5.length
                have l6 : (vs.take (rest.idxOf x)).length ≤ vs.length := by rw [List.length_take]; omega
                refine list_J (nx := []) (old := [_, _, _, _, _, _]) (fun i ys nx => nx = [] ∧ IntsAre ys (((rest.take (rest.idxOf x)).take i).filter fun y => decide (y ∈ T0 x.toNat))) (fun g => compK_ev) rfl (listO_is (N18.get (.head _))) (by rw [sizeLine_eq]; omega) ?_ F18 N18 ⟨rfl, .nil⟩ ?_ ?_
                · rintro i' ys nx h19 _ ⟨rfl, _⟩ F19 N19 o e
                  rw [N18.get (.head _)] at e
                  cases e
                  exact N19.get (.head _)
                · rintro i' v I2 oI2 C oC D6 m₃ ys nx h19 tk19 hi' hv' ⟨rfl, hy⟩ hC hm₃ hl19 F19 N19 off19 ne19 lt19
                  obtain ⟨y, ty, rfl, hyi⟩ := I5.at _ _ hv'
                  clear F18 N18
                  refine TestsP.one_if ?_
                  simp only [List.nil_append] at N19
                  dsimp only
                  k_steps
                  refine item_ties (hT.ext F19.keep) hx4.1 hx4.2 fun a vs1 ha hva hla => ?_
                  k_steps
                  case _ =>
                    rename List.any (T0 _) _ = true => q9
                    refine CTurn.n0 F19 N19 (fun p hp => hp) ⟨rfl, ?_⟩
                    rw [List.take_add_one, hyi, Option.toList_some, List.filter_append, List.filter_cons, if_pos (decide_eq_true (any_mem q9)), List.filter_nil]
                    exact hy.append (.cons _ _ .nil)
                  case _ =>
                    rename List.any (T0 _) _ = false => q9
                    refine CTurn.n0 F19 N19 (fun p hp => hp) ⟨rfl, ?_⟩
                    rw [List.take_add_one, hyi, Option.toList_some, List.filter_append, List.filter_cons, if_neg (by rw [decide_eq_true_eq]; exact any_nmem q9), List.filter_nil, List.append_nil]
                    exact hy
                · rintro D6 h19 tk19 ys nx ⟨rfl, hy⟩ F19 N19 off19
                  rw [l5, List.take_length] at hy
                  change IntsAre ys (tiedAhead T0 rest x) at hy
                  have g1 := neN (off19 _ (.tail _ (.head _)))
                  dsimp only at g1
                  clear F18 N18
                  simp only [List.nil_append] at N19
                  dsimp only
                  k_steps
                  case' _ =>
                    refine ⟨?_⟩
                    rename decide (tiedAhead T0 rest x = []) = true => q9
                    rename News _ _ _ _ => N20
                    rename Fr _ _ _ _ => F20
                    refine del_K (pre := [_, _, _]) (post := [_, _, _, _]) F20 N20 (off1 (by k_ne) (off1 (by k_ne) (off1 (by k_ne) off0))) (off1 (by k_ne) (off1 (by k_ne) (off1 (by k_ne) (off1 (by k_ne) off0)))) (by omega) (by omega) (by omega) fun h21 F21 N21 => ?_
                    simp only [List.cons_append, List.nil_append] at N21
                    rw [show ((rest.idxOf x : Nat) : Int).toNat = rest.idxOf x by omega] at N21
                    dsimp only
                    k_steps
                    dsimp only
                    refine TurnEnd.split (nx := [_, _, _, _]) F21 (news_d3 N21) (off1 fE (off1 fx (off1 f3 (off1 fp off0)))) ⟨E, _, _, _, _, rfl, ⟨neN hn1, neN hn2, neN hn3⟩, ints_erase hre _, delAll_next hda hx (delOne_ok hin (of_decide_eq_true q9)), ⟨_, by assumption⟩, e1, e2⟩
                  case _ =>
                    rename decide (tiedAhead T0 rest x = []) = false => q9
                    rename Fr _ _ _ _ => F20
                    dsimp only
                    refine Back.intro F20 ?_
                    show Value.bool false = Value.bool (powerP T0 row k)
                    rw [powerP_bad hda hx (delOne_tied (of_decide_eq_false q9))]
              case _ =>
                rename (List.any rest _) = false => qin
                have hnin := any_nmem qin
                rename Fr _ _ _ _ => F15
                dsimp only
                refine Back.intro F15 ?_
                show Value.bool false = Value.bool (powerP T0 row k)
                rw [powerP_bad hda hx (delOne_nin hnin)]
            · clear l3 l4 l5 N15 F13
              rintro m₁ nx h14 tk14 ⟨E, vs, c, ox, rest, rfl, ⟨hn1, hn2, hn3⟩, hre, hda, ⟨vx, hox⟩, e1, e2⟩ F14 N14
              simp only [List.cons_append, List.nil_append] at N14
              have hrul3 := hru.length
              rw [List.length_map] at hrul3
              rw [hrul3, List.take_length] at hda
              k_unmd
              k_fold
              dsimp only
              k_steps
              rename Fr _ _ _ _ => F15
              refine Back.intro F15 ?_
              show Value.bool (decide (rest = [])) = Value.bool (powerP T0 row k)
              rw [powerP, heven, hda, Bool.true_and]
              by_cases q : rest = []
              · rw [decide_eq_true q, q, decide_eq_true rfl]
              · rw [decide_eq_false q, decide_eq_false fun h => q (Option.some.inj h)]
      case _ =>
        rename decide (unevenP row k 4 = []) = false => q
        rename Fr _ _ _ _ => F5
        refine Back.intro F5 ?_
        show Value.bool false = Value.bool (powerP T0 row k)
        rw [powerP, q, Bool.false_and]
end Mine
end
section
namespace Mine
section
variable {α : Type} [DecidableEq α]
/-- w is some word laid down k times -/
def kpow (k : Nat) (w : List α) : Prop := ∃ u, w = (List.replicate k u).flatten
def Per (w : List α) (p : Nat) : Prop := ∀ i, i + p < w.length → w[i]? = w[i + p]?
theorem Per.mul {w : List α} {p : Nat} (h : Per w p) : ∀ m, Per w (m * p)
  | 0 => fun i _ => by rw [Nat.zero_mul, Nat.add_zero]
  | m + 1 => fun i hi => by
    rw [Nat.succ_mul] at hi ⊢
    rw [h.mul m i (by omega), h (i + m * p) (by omega)]
    congr 1; omega
theorem Per.sub {w : List α} {p q : Nat} (hp : Per w p) (hq : Per w q) (hpq : p ≤ q) (hn : p + q ≤ w.length) : Per w (q - p) := by
  intro i hi
  by_cases h : i + q < w.length
  · rw [hq i h, hp (i + (q - p)) (by omega)]
    congr 1; omega
  · have h1 := hp (i - p) (by omega)
    have h2 := hq (i - p) (by omega)
    rw [show i - p + p = i by omega] at h1
    rw [show i - p + q = i + (q - p) by omega] at h2
    rw [← h1, h2]
theorem Per.gcd {w : List α} : ∀ (n p q : Nat), p + q = n → Per w p → Per w q → p + q ≤ w.length → Per w (Nat.gcd p q) := by
  intro n
  induction n using Nat.strongRecOn with
  | ind n ih =>
    intro p q e hp hq hn
    by_cases h0 : p = 0
    · subst h0; rw [Nat.gcd_zero_left]; exact hq
    by_cases h1 : q = 0
    · subst h1; rw [Nat.gcd_zero_right]; exact hp
    by_cases h : p ≤ q
    · have := ih (p + (q - p)) (by omega) p (q - p) rfl hp (hp.sub hq h hn) (by omega)
      rwa [Nat.gcd_sub_self_right h] at this
    · have := ih (q + (p - q)) (by omega) q (p - q) rfl hq (hq.sub hp (by omega) (by omega)) (by omega)
      rwa [Nat.gcd_sub_self_right (by omega), Nat.gcd_comm] at this
theorem per_of_kpow {k : Nat} {w : List α} (h : kpow k w) : ∃ q, w.length = k * q ∧ Per w q := by
  obtain ⟨u, rfl⟩ := h
  refine ⟨u.length, rep_length u k, fun i hi => ?_⟩
  rw [rep_length] at hi
  cases k with
  | zero => omega
  | succ k =>
    have hl := rep_length u k
    rw [Nat.succ_mul] at hi
    have e1 : (List.replicate (k + 1) u).flatten = u ++ (List.replicate k u).flatten := by rw [List.replicate_succ, List.flatten_cons]
    have e2 : (List.replicate (k + 1) u).flatten = (List.replicate k u).flatten ++ u := by rw [List.replicate_succ', List.flatten_append]; simp
    have h1 : ((List.replicate (k + 1) u).flatten)[i]? = ((List.replicate k u).flatten)[i]? := by
      rw [e2, List.getElem?_append_left (by omega)]
    have h2 : ((List.replicate (k + 1) u).flatten)[i + u.length]? = ((List.replicate k u).flatten)[i]? := by
      rw [e1, List.getElem?_append_right (by omega)]
      congr 1; omega
    rw [h1, h2]
theorem kpow_of_per {q : Nat} : ∀ {k : Nat} {w : List α}, w.length = k * q → Per w q → w = (List.replicate k (w.take q)).flatten
  | 0, w, h, _ => by
    rw [Nat.zero_mul] at h
    rw [List.eq_nil_of_length_eq_zero h]; simp
  | k + 1, w, h, hp => by
    rw [Nat.succ_mul] at h
    have hd : (w.drop q).length = k * q := by rw [List.length_drop]; omega
    have ih := kpow_of_per (k := k) hd (fun i hi => by
      rw [List.getElem?_drop, List.getElem?_drop, show q + (i + q) = q + i + q by omega]
      exact hp (q + i) (by rw [List.length_drop] at hi; omega))
    rw [List.replicate_succ, List.flatten_cons]
    by_cases hk : k = 0
    · subst hk
      rw [List.replicate_zero, List.flatten_nil, List.append_nil, List.take_of_length_le (by omega)]
    · have e : (w.drop q).take q = w.take q := by
        apply List.ext_getElem?
        intro i
        rw [List.getElem?_take, List.getElem?_take, List.getElem?_drop]
        split
        · have hkq : q ≤ k * q := Nat.le_mul_of_pos_left _ (by omega)
          rw [Nat.add_comm q i, hp i (by omega)]
        · rfl
      rw [e] at ih
      rw [← ih, List.take_append_drop]
theorem kpow_iff {k : Nat} {w : List α} : kpow k w ↔ ∃ q, w.length = k * q ∧ Per w q :=
  ⟨per_of_kpow, fun ⟨_, h1, h2⟩ => ⟨_, kpow_of_per h1 h2⟩⟩
theorem kpow_one (w : List α) : kpow 1 w := ⟨w, by simp⟩
theorem kpow_nil (k : Nat) : kpow k ([] : List α) := ⟨[], by simp⟩
theorem isB_per {w : List α} {q : Nat} (hq : q ≤ w.length) : isB w w.length (w.length - q) = true ↔ Per w q := by
  rw [isB_iff (Nat.le_refl _) (by omega)]
  constructor
  · intro h i hi
    rw [h i (by omega)]
    congr 1; omega
  · intro h i hi
    rw [h i (by omega)]
    congr 1; omega
end
theorem often_iff {w : List PySem.Str} (h : w ≠ []) {k : Nat} (hk : 1 ≤ k) : k ∣ oftenP w ↔ kpow k w := by
  have hn : 0 < w.length := List.length_pos_iff.mpr h
  obtain ⟨hb1, hb2⟩ := lb_mem w hn
  have hp : Per w (w.length - lb w w.length) := by
    rw [← isB_per (by omega)]
    rw [show w.length - (w.length - lb w w.length) = lb w w.length by omega]; exact hb2
  have hmin : ∀ q, 0 < q → q ≤ w.length → Per w q → w.length - lb w w.length ≤ q := by
    intro q h0 h1 h2
    have := lb_ge w (k := w.length - q) (by omega) ((isB_per h1).mpr h2)
    omega
  unfold oftenP
  generalize hpe : w.length - lb w w.length = p at hp hmin ⊢
  have hp0 : 0 < p := by omega
  have hpn : p ≤ w.length := by omega
  constructor
  · intro hd
    split at hd
    · next e =>
      obtain ⟨m, hm⟩ := hd
      have e2 : w.length = k * (m * p) := by
        rw [← Nat.mul_assoc, ← hm, Nat.div_mul_cancel (Nat.dvd_of_mod_eq_zero e)]
      exact kpow_iff.mpr ⟨_, e2, hp.mul m⟩
    · have : k = 1 := Nat.dvd_one.mp hd
      subst this; exact kpow_one w
  · intro hw
    obtain ⟨q, e, hq⟩ := per_of_kpow hw
    by_cases k1 : k = 1
    · subst k1; exact Nat.one_dvd _
    have hq0 : 0 < q := by
      rcases Nat.eq_zero_or_pos q with h0 | h0
      · subst h0; omega
      · exact h0
    have h2q : 2 * q ≤ w.length := by rw [e]; exact Nat.mul_le_mul_right _ (by omega)
    have hpq := hmin q hq0 (by omega) hq
    have hg := Per.gcd _ p q rfl hp hq (by omega)
    have hgp : Nat.gcd p q ∣ p := Nat.gcd_dvd_left _ _
    have hgl := Nat.le_of_dvd hp0 hgp
    have hge := hmin _ (Nat.gcd_pos_of_pos_left _ hp0) (by omega) hg
    have hpd : p ∣ q := by
      have : Nat.gcd p q = p := by omega
      rw [← this]; exact Nat.gcd_dvd_right _ _
    obtain ⟨m, rfl⟩ := hpd
    have e3 : w.length = k * m * p := by rw [e, Nat.mul_comm p m, Nat.mul_assoc]
    rw [if_pos (by rw [e3]; exact Nat.mul_mod_left _ _), e3, Nat.mul_div_cancel _ hp0]
    exact Nat.dvd_mul_right _ _

/-! rows of letters -/
def proj (a b : Int) (w : List Int) : List Int := w.filter fun x => decide (x = a ∨ x = b)
theorem proj_append (a b : Int) (v w : List Int) : proj a b (v ++ w) = proj a b v ++ proj a b w := List.filter_append ..
theorem proj_comm (a b : Int) (w : List Int) : proj a b w = proj b a w := by
  unfold proj
  congr 1; funext x
  exact decide_eq_decide.mpr Or.comm
theorem mem_proj {a b x : Int} {w : List Int} : x ∈ proj a b w ↔ x ∈ w ∧ (x = a ∨ x = b) := by
  unfold proj; rw [List.mem_filter, decide_eq_true_eq]
theorem proj_flat (a b : Int) (u : List Int) : ∀ k, proj a b (List.replicate k u).flatten = (List.replicate k (proj a b u)).flatten
  | 0 => rfl
  | k + 1 => by rw [List.replicate_succ, List.replicate_succ, List.flatten_cons, List.flatten_cons, proj_append, proj_flat a b u k]
def In4 (w : List Int) : Prop := ∀ x ∈ w, 0 ≤ x ∧ x < 4
/-- tied letters -/
def Tied (T : Nat → List Int) (a b : Int) : Prop := b ∈ T a.toNat ∧ a ∈ T b.toNat
theorem split_at {rest : List Int} {x : Int} (h : x ∈ rest) : rest = rest.take (rest.idxOf x) ++ x :: rest.drop (rest.idxOf x + 1) ∧ x ∉ rest.take (rest.idxOf x) ∧ rest.eraseIdx (rest.idxOf x) = rest.take (rest.idxOf x) ++ rest.drop (rest.idxOf x + 1) := by
  have hi : rest.idxOf x < rest.length := List.idxOf_lt_length_of_mem h
  refine ⟨?_, ?_, List.eraseIdx_eq_take_drop_succ ..⟩
  · have e : rest[rest.idxOf x] = x := List.getElem_idxOf hi
    have := List.take_append_drop (rest.idxOf x) rest
    rw [List.drop_eq_getElem_cons hi, e] at this
    exact this.symm
  · intro hm
    obtain ⟨j, hj, e⟩ := List.mem_iff_getElem.mp hm
    rw [List.length_take] at hj
    rw [List.getElem_take] at e
    have := List.not_of_lt_findIdx (p := fun y => y == x) (xs := rest) (i := j) (by unfold List.idxOf at hj; omega)
    rw [e] at this
    simp at this
theorem delOne_proj {T : Nat → List Int} {rest r : List Int} {x : Int} (h : delOne T rest x = some r) {a b : Int} (t : Tied T a b) : proj a b rest = proj a b [x] ++ proj a b r := by
  unfold delOne at h
  split at h
  · next hx =>
    split at h
    · next ht =>
      cases h
      obtain ⟨e1, e2, e3⟩ := split_at hx
      rw [e3]
      unfold tiedAhead at ht
      generalize rest.take (rest.idxOf x) = pre at e1 e2 ht
      generalize rest.drop (rest.idxOf x + 1) = post at e1
      rw [e1, proj_append, proj_append]
      have hc : proj a b (x :: post) = proj a b [x] ++ proj a b post := proj_append a b [x] post
      rw [hc]
      by_cases hab : x = a ∨ x = b
      · have : proj a b pre = [] := by
          rw [List.eq_nil_iff_forall_not_mem]
          intro y hy
          obtain ⟨h1, h2⟩ := mem_proj.mp hy
          have hne : y ≠ x := fun q => e2 (q ▸ h1)
          have hnt : y ∉ T x.toNat := fun q => by
            have : y ∈ pre.filter fun y => decide (y ∈ T x.toNat) := List.mem_filter.mpr ⟨h1, decide_eq_true q⟩
            rw [ht] at this; cases this
          rcases hab with rfl | rfl
          · rcases h2 with h2 | h2
            · exact hne h2
            · exact hnt (h2 ▸ t.1)
          · rcases h2 with h2 | h2
            · exact hnt (h2 ▸ t.2)
            · exact hne h2
        rw [this, List.nil_append, List.nil_append]
      · have : proj a b [x] = [] := by
          rw [List.eq_nil_iff_forall_not_mem]
          intro y hy
          obtain ⟨h1, h2⟩ := mem_proj.mp hy
          rw [List.mem_singleton.mp h1] at h2; exact hab h2
        rw [this, List.nil_append, List.nil_append]
    · cases h
  · cases h
theorem delAll_proj {T : Nat → List Int} {a b : Int} (t : Tied T a b) : ∀ {xs rest r : List Int}, delAll T xs rest = some r → proj a b rest = proj a b xs ++ proj a b r
  | [], rest, r, h => by cases h; rfl
  | x :: xs, rest, r, h => by
    have h' : (delOne T rest x).bind (delAll T xs) = some r := h
    cases e : delOne T rest x with
    | none => rw [e] at h'; cases h'
    | some q =>
      rw [e] at h'
      rw [delOne_proj e t, delAll_proj t (show delAll T xs q = some r from h'), ← List.append_assoc, ← proj_append]
      rfl
theorem delAll_of_proj {T : Nat → List Int} (g : GoodT T) : ∀ {xs rest : List Int}, In4 xs → In4 rest → (∀ a b, 0 ≤ a → a < 4 → 0 ≤ b → b < 4 → Tied T a b → proj a b xs = proj a b rest) → delAll T xs rest = some []
  | [], rest, _, h4, h => by
    have : rest = [] := by
      rw [List.eq_nil_iff_forall_not_mem]
      intro y hy
      obtain ⟨y0, y1⟩ := h4 y hy
      have hr : y ∈ T y.toNat := by
        have := g.refl y.toNat (by omega)
        rwa [show ((y.toNat : Nat) : Int) = y by omega] at this
      have e := h y y y0 y1 y0 y1 ⟨hr, hr⟩
      have hm : y ∈ proj y y rest := mem_proj.mpr ⟨hy, .inl rfl⟩
      rw [← e] at hm; cases hm
    subst this; rfl
  | x :: xs, rest, h3, h4, h => by
    obtain ⟨x0, x1⟩ := h3 x (.head _)
    have hr : x ∈ T x.toNat := by
      have := g.refl x.toNat (by omega)
      rwa [show ((x.toNat : Nat) : Int) = x by omega] at this
    have hx : x ∈ rest := by
      have hm : x ∈ proj x x (x :: xs) := mem_proj.mpr ⟨.head _, .inl rfl⟩
      rw [h x x x0 x1 x0 x1 ⟨hr, hr⟩] at hm
      exact (mem_proj.mp hm).1
    obtain ⟨e1, e2, e3⟩ := split_at hx
    have ht : tiedAhead T rest x = [] := by
      rw [List.eq_nil_iff_forall_not_mem]
      intro y hy
      unfold tiedAhead at hy
      obtain ⟨hy1, hy2⟩ := List.mem_filter.mp hy
      replace hy2 := of_decide_eq_true hy2
      obtain ⟨y0, y1⟩ := h4 y (List.mem_of_mem_take hy1)
      have ty : Tied T x y := ⟨hy2, by
        have := g.symm x.toNat y.toNat (by omega) (by omega) (by rwa [show ((y.toNat : Nat) : Int) = y by omega])
        rwa [show ((x.toNat : Nat) : Int) = x by omega] at this⟩
      have e := h x y x0 x1 y0 y1 ty
      rw [e1, proj_append] at e
      have hm : y ∈ proj x y (rest.take (rest.idxOf x)) := mem_proj.mpr ⟨hy1, .inr rfl⟩
      have hl : proj x y (x :: xs) = x :: proj x y xs := by
        unfold proj; rw [List.filter_cons, if_pos (decide_eq_true (.inl rfl))]
      rw [hl] at e
      cases q : proj x y (rest.take (rest.idxOf x)) with
      | nil => rw [q] at hm; cases hm
      | cons z zs =>
        rw [q, List.cons_append] at e
        have hz : z ∈ proj x y (rest.take (rest.idxOf x)) := by rw [q]; exact .head _
        have : x = z := (List.cons.inj e).1
        exact e2 (this ▸ (mem_proj.mp hz).1)
    have hd := delOne_ok hx ht
    show (delOne T rest x).bind (delAll T xs) = some []
    rw [hd]
    refine delAll_of_proj g (fun y hy => h3 y (.tail _ hy)) (fun y hy => h4 y (List.mem_of_mem_eraseIdx hy)) fun a b a0 a1 b0 b1 t => ?_
    have e := h a b a0 a1 b0 b1 t
    rw [delOne_proj hd t] at e
    have hc : proj a b (x :: xs) = proj a b [x] ++ proj a b xs := proj_append a b [x] xs
    rw [hc] at e
    exact List.append_cancel_left e

/-! the first k-th parts -/
def takeF (c : Int → Int) : List Int → List Int
  | [] => []
  | x :: l => if 0 < c x then x :: takeF (fun y => if y = x then c x - 1 else c y) l else takeF c l
theorem takeF_congr : ∀ {l : List Int} {c c' : Int → Int}, (∀ y ∈ l, c y = c' y) → takeF c l = takeF c' l
  | [], _, _, _ => rfl
  | x :: l, c, c', h => by
    unfold takeF
    rw [h x (.head _)]
    split
    · congr 1
      refine takeF_congr fun y hy => ?_
      split
      · rfl
      · exact h y (.tail _ hy)
    · exact takeF_congr fun y hy => h y (.tail _ hy)
theorem takeF_filter (P : Int → Bool) : ∀ (l : List Int) (c : Int → Int), (takeF c l).filter P = takeF c (l.filter P)
  | [], _ => rfl
  | x :: l, c => by
    by_cases hP : P x = true
    · rw [List.filter_cons, if_pos hP]
      unfold takeF
      split
      · rw [List.filter_cons, if_pos hP, takeF_filter P l]
      · exact takeF_filter P l c
    · rw [List.filter_cons, if_neg hP]
      conv => lhs; unfold takeF
      split
      · rw [List.filter_cons, if_neg hP, takeF_filter P l]
        refine takeF_congr fun y hy => ?_
        have := (List.mem_filter.mp hy).2
        rw [if_neg (by rintro rfl; exact hP this)]
      · exact takeF_filter P l c
theorem takeF_none : ∀ {l : List Int} {c : Int → Int}, (∀ y ∈ l, c y = 0) → takeF c l = []
  | [], _, _ => rfl
  | x :: l, c, h => by
    unfold takeF
    rw [if_neg (by rw [h x (.head _)]; decide)]
    exact takeF_none fun y hy => h y (.tail _ hy)
theorem takeF_first : ∀ {u r : List Int} {c : Int → Int}, (∀ y ∈ u ++ r, c y = (u.count y : Nat)) → takeF c (u ++ r) = u
  | [], r, c, h => by
    rw [List.nil_append] at h ⊢
    exact takeF_none fun y hy => by rw [h y hy]; rfl
  | x :: u, r, c, h => by
    rw [List.cons_append]
    unfold takeF
    have hx : c x = ((x :: u).count x : Nat) := h x (.head _)
    rw [List.count_cons_self] at hx
    rw [if_pos (by omega)]
    congr 1
    refine takeF_first fun y hy => ?_
    have hy' := h y (.tail _ hy)
    rw [List.count_cons] at hy'
    split
    · next e => subst e; omega
    · next e => rw [hy', if_neg (by simpa using fun q => e q.symm)]; omega
theorem foldl_takeF : ∀ (l cs out : List Int), cs.length = 4 → In4 l → (l.foldl rStep (cs, out)).2 = out ++ takeF (fun y => cs.getD y.toNat 0) l
  | [], cs, out, _, _ => by simp [takeF]
  | x :: l, cs, out, hc, h4 => by
    obtain ⟨x0, x1⟩ := h4 x (.head _)
    rw [List.foldl_cons]
    unfold takeF
    have e : rStep (cs, out) x = if 0 < cs.getD x.toNat 0 then (cs.set x.toNat (cs.getD x.toNat 0 - 1), out ++ [x]) else (cs, out) := rfl
    rw [e]
    split
    · rw [foldl_takeF l _ _ (by rw [List.length_set]; exact hc) fun y hy => h4 y (.tail _ hy), List.append_assoc, List.singleton_append]
      congr 2
      refine takeF_congr fun y hy => ?_
      obtain ⟨y0, y1⟩ := h4 y (.tail _ hy)
      rw [List.getD_eq_getElem?_getD, List.getElem?_set]
      split
      · next e => 
        rw [if_pos (by omega), if_pos (by omega)]; rfl
      · next e => rw [if_neg (by omega), List.getD_eq_getElem?_getD]
    · exact foldl_takeF l cs out hc fun y hy => h4 y (.tail _ hy)
theorem leftP_get {row : List Int} {k : Int} {y : Int} (h : 0 ≤ y ∧ y < 4) : (leftP row k 4).getD y.toNat 0 = ((row.count y : Nat) : Int).fdiv k := by
  unfold leftP
  rw [List.getD_eq_getElem?_getD, List.getElem?_map, List.getElem?_range (by omega), Option.map_some, Option.getD_some, show ((y.toNat : Nat) : Int) = y by omega]
theorem root_proj {row : List Int} {k : Int} {u r : List Int} {a b : Int} (h4 : In4 row) (hk : 1 ≤ k) (h : proj a b row = u ++ r) (hc : ∀ y, (y = a ∨ y = b) → row.count y = k.toNat * u.count y) : proj a b (rootP row k) = u := by
  unfold rootP
  rw [foldl_takeF _ _ _ (by simp [leftP]) h4, List.nil_append]
  unfold proj
  rw [takeF_filter]
  change takeF _ (proj a b row) = u
  rw [h]
  refine takeF_first fun y hy => ?_
  rw [← h] at hy
  obtain ⟨hy1, hy2⟩ := mem_proj.mp hy
  rw [leftP_get (h4 y hy1), hc y hy2, Int.fdiv_eq_ediv_of_nonneg _ (by omega)]
  have : ((k.toNat * u.count y : Nat) : Int) = k * ((u.count y : Nat) : Int) := by
    rw [Int.natCast_mul, show ((k.toNat : Nat) : Int) = k by omega]
  rw [this, Int.mul_ediv_cancel_left _ (by omega)]
theorem count_proj {a b y : Int} {w : List Int} (h : y = a ∨ y = b) : (proj a b w).count y = w.count y := List.count_filter (by simpa using h)
theorem count_flat (u : List Int) (y : Int) : ∀ k, ((List.replicate k u).flatten).count y = k * u.count y
  | 0 => by simp
  | k + 1 => by rw [List.replicate_succ, List.flatten_cons, List.count_append, count_flat u y k, Nat.succ_mul]; omega
theorem flat_pos {u : List Int} {k : Nat} (h : 1 ≤ k) : (List.replicate k u).flatten = u ++ (List.replicate (k - 1) u).flatten := by
  obtain ⟨j, rfl⟩ : ∃ j, k = j + 1 := ⟨k - 1, by omega⟩
  rw [List.replicate_succ, List.flatten_cons, Nat.add_sub_cancel]
/-- Duboc -/
theorem power_iff {T : Nat → List Int} (g : GoodT T) {row : List Int} (h4 : In4 row) {k : Int} (hk : 1 ≤ k) :
    powerP T row k = true ↔ ∀ high : Nat, high < 4 → ∀ low ∈ T high, low ≤ high → kpow k.toNat (proj high low row) := by
  unfold powerP
  rw [Bool.and_eq_true, decide_eq_true_eq, decide_eq_true_eq]
  constructor
  · rintro ⟨_, hd⟩ high hh low hl _
    have w := g.within high hh low hl
    have t : Tied T high low := ⟨by simpa using hl, by
      have := g.symm high low.toNat hh (by omega) (by rwa [show ((low.toNat : Nat) : Int) = low by omega])
      exact this⟩
    have e := delAll_proj t hd
    rw [proj_flat, show proj (high : Int) low [] = [] from rfl, List.append_nil] at e
    exact ⟨_, e⟩
  · intro h
    have all : ∀ a b, 0 ≤ a → a < 4 → 0 ≤ b → b < 4 → Tied T a b → ∃ u, proj a b row = (List.replicate k.toNat u).flatten := by
      intro a b a0 a1 b0 b1 t
      by_cases q : b ≤ a
      · have := h a.toNat (by omega) b t.1 (by omega)
        rwa [show ((a.toNat : Nat) : Int) = a by omega] at this
      · have := h b.toNat (by omega) a t.2 (by omega)
        rw [show ((b.toNat : Nat) : Int) = b by omega, proj_comm] at this
        exact this
    have cnt : ∀ {a b : Int} {u : List Int}, proj a b row = (List.replicate k.toNat u).flatten → ∀ y, (y = a ∨ y = b) → row.count y = k.toNat * u.count y := by
      intro a b u e y hy
      rw [← count_proj hy, e, count_flat]
    refine ⟨?_, ?_⟩
    · unfold unevenP
      rw [List.map_eq_nil_iff, List.filter_eq_nil_iff]
      intro x hx
      rw [List.mem_range] at hx
      rw [decide_eq_true_eq, Classical.not_not]
      have hr := g.refl x hx
      obtain ⟨u, e⟩ := all x x (by omega) (by omega) (by omega) (by omega) ⟨by simpa using hr, by simpa using hr⟩
      have hc := cnt e x (.inl rfl)
      have := leftP_get (row := row) (k := k) (y := (x : Int)) ⟨by omega, by omega⟩
      rw [show ((x : Int)).toNat = x by omega] at this
      rw [this, hc, Int.fdiv_eq_ediv_of_nonneg _ (by omega)]
      have : ((k.toNat * u.count (x : Int) : Nat) : Int) = k * ((u.count (x : Int) : Nat) : Int) := by
        rw [Int.natCast_mul, show ((k.toNat : Nat) : Int) = k by omega]
      rw [this, Int.mul_ediv_cancel_left _ (by omega), Int.mul_comm]
    · have hroot : In4 (rootP row k) := by
        intro y hy
        rw [← rootR_full] at hy
        exact h4 y (mem_rootR hy)
      refine delAll_of_proj g (fun y hy => ?_) h4 fun a b a0 a1 b0 b1 t => ?_
      · obtain ⟨l, hl, hy⟩ := List.mem_flatten.mp hy
        rw [List.eq_of_mem_replicate hl] at hy
        exact hroot y hy
      · obtain ⟨u, e⟩ := all a b a0 a1 b0 b1 t
        rw [proj_flat, root_proj h4 hk (e.trans (flat_pos (by omega))) (cnt e), e]
end Mine
end
section
open PySem
namespace Mine
def Comm (T : Nat → List Int) (row : List Int) (i j : Nat) (c : Int) : Prop :=
  0 ≤ c ∧ ∀ k : Nat, 1 ≤ k → (k ∣ c.toNat ↔ (∀ h : Nat, h < i → ∀ l ∈ T h, l ≤ (h : Int) → kpow k (proj h l row)) ∧ ∀ l ∈ (T i).take j, l ≤ (i : Int) → kpow k (proj i l row))
theorem comm_start (T : Nat → List Int) (row : List Int) : Comm T row 0 0 0 := ⟨Int.le_refl _, fun k _ => ⟨fun _ => ⟨fun h hh => absurd hh (Nat.not_lt_zero _), fun l hl => nomatch hl⟩, fun _ => Nat.dvd_zero _⟩⟩
theorem take_snoc {l : List Int} {j : Nat} {x : Int} (h : l[j]? = some x) : l.take (j + 1) = l.take j ++ [x] := by rw [List.take_add_one, h]; rfl
section
variable {T : Nat → List Int} {row : List Int} {i j : Nat} {c l : Int}
theorem Comm.skip (h : Comm T row i j c) (hl : (T i)[j]? = some l) (hn : ¬ l ≤ (i : Int)) : Comm T row i (j + 1) c := by
  refine ⟨h.1, fun k hk => (h.2 k hk).trans (and_congr_right fun _ => ?_)⟩
  rw [take_snoc hl]
  constructor
  · intro q l' hl' hle
    rcases List.mem_append.mp hl' with hl' | hl'
    · exact q l' hl' hle
    · rw [List.mem_singleton.mp hl'] at hle; exact absurd hle hn
  · exact fun q l' hl' => q l' (List.mem_append_left _ hl')
theorem Comm.none (h : Comm T row i j c) (hl : (T i)[j]? = some l) (hn : proj i l row = []) : Comm T row i (j + 1) c := by
  refine ⟨h.1, fun k hk => (h.2 k hk).trans (and_congr_right fun _ => ?_)⟩
  rw [take_snoc hl]
  constructor
  · intro q l' hl' hle
    rcases List.mem_append.mp hl' with hl' | hl'
    · exact q l' hl' hle
    · rw [List.mem_singleton.mp hl', hn]; exact kpow_nil k
  · exact fun q l' hl' => q l' (List.mem_append_left _ hl')
def unm (s : Str) : Int := (names4.idxOf s : Nat)
theorem unm_nm {x : Int} (h : 0 ≤ x ∧ x < 4) : unm (nm x) = x := by
  have e : x = 0 ∨ x = 1 ∨ x = 2 ∨ x = 3 := by omega
  rcases e with rfl | rfl | rfl | rfl <;> decide +kernel
theorem kpow_map {w : List Int} (h4 : In4 w) {k : Nat} : kpow k (w.map nm) ↔ kpow k w := by
  constructor
  · rintro ⟨u, e⟩
    refine ⟨u.map unm, ?_⟩
    have e2 := congrArg (List.map unm) e
    rw [List.map_map, List.map_flatten, List.map_replicate] at e2
    rw [← e2]
    have e3 : w.map (unm ∘ nm) = w.map id := List.map_congr_left fun x hx => unm_nm (h4 x hx)
    rw [e3, List.map_id]
  · rintro ⟨u, rfl⟩
    exact ⟨u.map nm, by rw [List.map_flatten, List.map_replicate]⟩
theorem Comm.step (h : Comm T row i j c) (h4 : In4 row) (hl : (T i)[j]? = some l) (hle : l ≤ (i : Int)) (hn : proj i l row ≠ []) : Comm T row i (j + 1) (Int.gcd c ((oftenP ((proj i l row).map nm) : Nat) : Int) : Nat) := by
  refine ⟨by omega, fun k hk => ?_⟩
  have e : ((Int.gcd c ((oftenP ((proj i l row).map nm) : Nat) : Int) : Nat) : Int).toNat = Nat.gcd c.toNat (oftenP ((proj i l row).map nm)) := by
    rw [Int.toNat_natCast]
    have h0 := h.1
    obtain ⟨n, rfl⟩ := Int.eq_ofNat_of_zero_le h0
    rfl
  rw [e, Nat.dvd_gcd_iff, h.2 k hk, and_assoc]
  refine and_congr_right fun _ => ?_
  rw [take_snoc hl]
  have hm : In4 (proj i l row) := fun y hy => h4 y (mem_proj.mp hy).1
  rw [often_iff (by simpa using hn) hk, kpow_map hm]
  constructor
  · rintro ⟨q, q2⟩ l' hl' hle'
    rcases List.mem_append.mp hl' with hl' | hl'
    · exact q l' hl' hle'
    · rw [List.mem_singleton.mp hl']; exact q2
  · intro q
    exact ⟨fun l' hl' => q l' (List.mem_append_left _ hl'), q l (List.mem_append_right _ (.head _)) hle⟩
theorem Comm.next (h : Comm T row i j c) (hj : j = (T i).length) : Comm T row (i + 1) 0 c := by
  subst hj
  refine ⟨h.1, fun k hk => (h.2 k hk).trans ?_⟩
  rw [List.take_length]
  constructor
  · rintro ⟨q1, q2⟩
    refine ⟨fun h' hh l hl => ?_, fun l hl => nomatch hl⟩
    by_cases e : h' = i
    · subst e; exact q2 l hl
    · exact q1 h' (by omega) l hl
  · rintro ⟨q, _⟩
    exact ⟨fun h' hh => q h' (by omega), q i (by omega)⟩
theorem Comm.done (h : Comm T row 4 0 c) (g : GoodT T) (h4 : In4 row) {k : Int} (hk : 1 ≤ k) : decide (c.fmod k = 0) = powerP T row k := by
  have hp := power_iff g h4 hk
  have e := h.2 k.toNat (by omega)
  have e2 : k.toNat ∣ c.toNat ↔ powerP T row k = true := by
    rw [hp, e]
    exact ⟨fun q => q.1, fun q => ⟨q, fun l hl => nomatch hl⟩⟩
  have e3 : c.fmod k = 0 ↔ k.toNat ∣ c.toNat := by
    have h0 := h.1
    obtain ⟨n, rfl⟩ := Int.eq_ofNat_of_zero_le h0
    obtain ⟨m, rfl⟩ := Int.eq_ofNat_of_zero_le (show 0 ≤ k by omega)
    rw [Int.fmod_eq_emod_of_nonneg _ (by omega)]
    show ((n : Int) % (m : Int) = 0) ↔ m ∣ n
    rw [Nat.dvd_iff_mod_eq_zero]
    omega
  rw [← Bool.coe_iff_coe, decide_eq_true_eq, e3, e2]
end
end Mine
end
section
open PySem PySem.W PySem.Calls PyProof.Rows Mine
set_option Elab.async false
set_option maxRecDepth 100000
set_option maxHeartbeats 4000000
namespace Mine

theorem fresh_nes {h₀ g h : Heap} {L : Addr} {fz news : List (Addr × Obj)} (f : Fresh g h fz) (N : News h₀ L g news) : ∀ p ∈ fz, ∀ q ∈ news, @Ne Nat p.1 q.1 := fun p hp q hq => f.ne hp (N q hq).1
theorem names_gen {h₀ h : Heap} {L l : Addr} {t1 t2 t3 t4 : Tok} {n : Nat} {r : List (Addr × Obj)} (N : News h₀ L h ((l, W.listOf #[.str (Str.ofString "a") t1, .str (Str.ofString "A") t2, .str (Str.ofString "*") t3, .str (Str.ofString "") t4] n) :: r)) : ∃ vn : List Value, News h₀ L h ((l, W.listOf vn.toArray n) :: r) ∧ StrsAre vn names4 :=
  ⟨[.str (Str.ofString "a") t1, .str (Str.ofString "A") t2, .str (Str.ofString "*") t3, .str (Str.ofString "") t4], N, .cons _ _ (.cons _ _ (.cons _ _ (.cons _ _ .nil)))⟩
theorem compK_asn {prog : Program} {w : World} {A : Around} {s : Shared} {h₀ : Heap} {m : Str → Option Value} {env : Env} {y : Str} {py : Pos} {q : Shared → Prop} {E : Value → Shared → Prop} (hy : env.kindOf y = some .local) (hp : (env.scope.kind == .class || (env.scope.kind == .module && env.locals != env.globals)) = false) :
    CompK h₀ env.locals m (fun acc C => compPost (model prog w) A E (some (assign (.Name y py) env)) (fun _ s' => q s') acc C) (fun D z => if z = y then some (.ref D) else m z) (fun _ s' => q s') s :=
  compK_as (Q := fun _ s' => q s') rfl hy hp
/-- what stands between the turns over the tied pairs -/
def lwJ (T : Nat → List Int) (row : List Int) (zt zr D zw cl ch : Addr) (i j : Nat) (m : Str → Option Value) (nx : List (Addr × Obj)) : Prop :=
  ∃ ol oh c t, nx = [(cl, ol), (ch, oh)] ∧ (∃ v, ol.data = .cell v) ∧ (∃ v, oh.data = .cell v) ∧ m (Str.ofString "ties") = some (.ref zt) ∧ m (Str.ofString "row") = some (.ref zr) ∧ m (Str.ofString "letters") = some (.ref D) ∧ m (Str.ofString "whole") = some (.ref zw) ∧
    m (Str.ofString "common") = some (.int c t) ∧ Comm T row i j c
def lwK (T : Nat → List Int) (row : List Int) (zt zr D zw cl ch : Addr) (vh : Value) (i j : Nat) (m : Str → Option Value) (nx : List (Addr × Obj)) : Prop :=
  ∃ ol oh c t, nx = [(cl, ol), (ch, oh)] ∧ (∃ v, ol.data = .cell v) ∧ oh.data = .cell (some vh) ∧ m (Str.ofString "ties") = some (.ref zt) ∧ m (Str.ofString "row") = some (.ref zr) ∧ m (Str.ofString "letters") = some (.ref D) ∧ m (Str.ofString "whole") = some (.ref zw) ∧
    m (Str.ofString "common") = some (.int c t) ∧ Comm T row i j c
theorem item_tiesN {prog : Program} {w : World} {A : Around} {s : Shared} {E : Value → Shared → Prop} {value slice : PySem.Expr} {zt a0 a1 a2 a3 : Addr} {v0 v1 v2 v3 : List Value} {n0 n1 n2 n3 : List Int} {c0 c1 c2 c3 c4 : Nat} {k : Int} {u : Tok} {Q : Value → Shared → Prop} (e : s.heap.get? zt = some (W.listOf #[.ref a0, .ref a1, .ref a2, .ref a3] c4)) (hv : IntsAre v0 n0 ∧ IntsAre v1 n1 ∧ IntsAre v2 n2 ∧ IntsAre v3 n3) (hl : v0.length ≤ 64 ∧ v1.length ≤ 64 ∧ v2.length ≤ 64 ∧ v3.length ≤ 64) (h0 : 0 ≤ k) (h1 : k < 4)
    (h : ∀ a v c, (a, W.listOf (List.toArray v) c) ∈ [(a3, W.listOf (List.toArray v3) c3), (a2, W.listOf (List.toArray v2) c2), (a1, W.listOf (List.toArray v1) c1), (a0, W.listOf (List.toArray v0) c0)] → IntsAre v (T4 n0 n1 n2 n3 k.toNat) → v.length ≤ 64 → Q (.ref a) s)
    (hs : subscripted slice false (.ref zt) (.int k u) = operate [.ref zt, .int k u] (getItem (.ref zt) (.int k u)) := by with_unfolding_all rfl) :
    wpAny (model prog w) A (subscriptTail value slice (.ref zt) (.int k u)) Q E s := by
  have hL : s.heap.IsList zt ([.ref a0, .ref a1, .ref a2, .ref a3] : List Value).toArray := listO_is e
  refine item_any hL h0 (by simpa using h1) (by simp) (fun v hv' => ?_) hs
  obtain ⟨hv0, hv1, hv2, hv3⟩ := hv
  obtain ⟨hl0, hl1, hl2, hl3⟩ := hl
  have e4 : k = 0 ∨ k = 1 ∨ k = 2 ∨ k = 3 := by omega
  rcases e4 with rfl | rfl | rfl | rfl
  · cases hv'; exact h a0 v0 c0 (by simp) hv0 hl0
  · cases hv'; exact h a1 v1 c1 (by simp) hv1 hl1
  · cases hv'; exact h a2 v2 c2 (by simp) hv2 hl2
  · cases hv'; exact h a3 v3 c3 (by simp) hv3 hl3
theorem mem4 {q x3 x2 x1 x0 : Addr × Obj} {r : List (Addr × Obj)} (h : q ∈ [x3, x2, x1, x0]) (h3 : x3 ∈ r) (h2 : x2 ∈ r) (h1 : x1 ∈ r) (h0 : x0 ∈ r) : q ∈ r := by
  simp only [List.mem_cons, List.not_mem_nil, or_false] at h
  rcases h with rfl | rfl | rfl | rfl <;> assumption
theorem ne_cell {h : Heap} {a c : Addr} {o oc : Obj} {v : Option Value} (e1 : h.get? a = some o) (hn : ∀ v, o.data ≠ .cell v) (e2 : h.get? c = some oc) (d : oc.data = .cell v) : @Ne Nat a c := fun e => by
  rw [show a = c from e, e2] at e1
  cases e1; exact hn _ d
theorem cells_off {h₀ h : Heap} {L c : Addr} {oc : Obj} {v : Option Value} {pre old : List (Addr × Obj)} (N : News h₀ L h (pre ++ old)) (e : h.get? c = some oc) (d : oc.data = .cell v) (hn : ∀ p ∈ old, ∀ v, p.2.data ≠ .cell v) : ∀ p ∈ old, p.1 ≠ c := fun p hp =>
  ne_cell (N _ (List.mem_append_right _ hp)).1 (hn p hp) e d
theorem pack {h₀ h : Heap} {L : Addr} {x1 x2 x3 x4 x5 x6 x7 x8 x9 x10 x11 x12 zc cl ch cn : Addr × Obj} (N : News h₀ L h [x1, x2, x3, x4, x5, x6, x7, x8, x9, x10, x11, x12, zc, cl, ch, cn]) :
    ∃ old, old = [x1, x2, x3, x4, x5, x6, x7, x8, x9, x10, x11, x12] ∧ News h₀ L h ([cl, ch, cn] ++ old) ∧ x1 ∈ old ∧ x2 ∈ old ∧ x3 ∈ old ∧ x4 ∈ old ∧ x5 ∈ old ∧ x6 ∈ old ∧ x7 ∈ old ∧ x8 ∈ old ∧ x9 ∈ old ∧ x10 ∈ old ∧ x11 ∈ old ∧ x12 ∈ old := by
  have t4 : ∀ {q a b c d : Addr × Obj} {l : List (Addr × Obj)}, q ∈ l → q ∈ a :: b :: c :: d :: l := fun h => .tail _ (.tail _ (.tail _ (.tail _ h)))
  refine ⟨_, rfl, ?_, .head _, .tail _ (.head _), .tail _ (.tail _ (.head _)), .tail _ (.tail _ (.tail _ (.head _))), t4 (.head _), t4 (.tail _ (.head _)), t4 (.tail _ (.tail _ (.head _))), t4 (.tail _ (.tail _ (.tail _ (.head _)))), t4 (t4 (.head _)), t4 (t4 (.tail _ (.head _))), t4 (t4 (.tail _ (.tail _ (.head _)))), t4 (t4 (.tail _ (.tail _ (.tail _ (.head _)))))⟩
  intro p hp
  rcases List.mem_append.mp hp with hp | hp
  · refine N p (List.mem_append_right [x1, x2, x3, x4, x5, x6, x7, x8, x9, x10, x11, x12, zc] hp)
  · exact N p (List.mem_append_left [zc, cl, ch, cn] hp)
theorem item_names {prog : Program} {w : World} {A : Around} {s : Shared} {E : Value → Shared → Prop} {value slice : PySem.Expr} {l : Addr} {vn : List Value} {n : Nat} {k : Int} {u : Tok} {Q : Value → Shared → Prop} (e : s.heap.get? l = some (W.listOf vn.toArray n)) (hn : StrsAre vn names4) (h0 : 0 ≤ k ∧ k < 4)
    (h : ∀ t, Q (.str (nm k) t) s)
    (hs : subscripted slice false (.ref l) (.int k u) = operate [.ref l, .int k u] (getItem (.ref l) (.int k u)) := by with_unfolding_all rfl) :
    wpAny (model prog w) A (subscriptTail value slice (.ref l) (.int k u)) Q E s :=
  item_strs (listO_is e) hn h0.1 h0.2 (by decide) (fun x t hx => by
    rw [nm_get h0] at hx
    cases hx
    exact h t) hs
theorem pair_gen {h₀ h : Heap} {L l : Addr} {a b c : Str} {t1 t2 t3 : Tok} {n : Nat} {r : List (Addr × Obj)} (N : News h₀ L h ((l, W.listOf #[.str a t1, .str b t2, .str c t3] n) :: r)) : ∃ vn : List Value, News h₀ L h ((l, W.listOf vn.toArray n) :: r) ∧ StrsAre vn [a, b, c] :=
  ⟨[.str a t1, .str b t2, .str c t3], N, .cons _ _ (.cons _ _ (.cons _ _ .nil))⟩
theorem skip9 {q a1 a2 a3 a4 a5 a6 a7 a8 a9 : Addr × Obj} {l : List (Addr × Obj)} (h : q ∈ l) : q ∈ a1 :: a2 :: a3 :: a4 :: a5 :: a6 :: a7 :: a8 :: a9 :: l :=
  .tail _ (.tail _ (.tail _ (.tail _ (.tail _ (.tail _ (.tail _ (.tail _ (.tail _ h))))))))
theorem okS_nm {l : List Int} (h : In4 l) : okS (l.map nm) := by
  intro s hs
  obtain ⟨x, hx, rfl⟩ := List.mem_map.mp hs
  have hx4 := h x hx
  have e : x = 0 ∨ x = 1 ∨ x = 2 ∨ x = 3 := by omega
  rcases e with rfl | rfl | rfl | rfl <;> decide +kernel
theorem keep_strs {S : Str → Bool} : ∀ {vs : List Value} {xs : List Str}, StrsAre vs xs → StrsAre (vs.filter (keepS S)) (xs.filter S)
  | _, _, .nil => .nil
  | _, _, .cons x t h => by
    rw [List.filter_cons, List.filter_cons]
    show StrsAre (if S x = true then _ else _) _
    split
    · exact .cons _ _ (keep_strs h)
    · exact keep_strs h
theorem nm_inj {x y : Int} (hx : 0 ≤ x ∧ x < 4) (hy : 0 ≤ y ∧ y < 4) (h : nm x = nm y) : x = y := by
  rw [← unm_nm hx, ← unm_nm hy, h]
theorem part_strs {row : List Int} (h4 : In4 row) {a b : Int} (ha : 0 ≤ a ∧ a < 4) (hb : 0 ≤ b ∧ b < 4) : ((row.map nm).filter fun k => decide (k ∈ [nm a, nm b, nm a])) = (proj a b row).map nm := by
  unfold proj
  rw [List.filter_map]
  congr 1
  refine List.filter_congr fun x hx => ?_
  show decide (nm x ∈ [nm a, nm b, nm a]) = decide (x = a ∨ x = b)
  rw [decide_eq_decide]
  constructor
  · intro h
    simp only [List.mem_cons, List.not_mem_nil, or_false] at h
    rcases h with h | h | h
    · exact .inl (nm_inj (h4 x hx) ha h)
    · exact .inr (nm_inj (h4 x hx) hb h)
    · exact .inl (nm_inj (h4 x hx) ha h)
  · rintro (rfl | rfl) <;> simp
theorem skip4 {q a1 a2 a3 a4 : Addr × Obj} {l : List (Addr × Obj)} (h : q ∈ l) : q ∈ a1 :: a2 :: a3 :: a4 :: l := .tail _ (.tail _ (.tail _ (.tail _ h)))
theorem ne_same {prog : Program} {w : World} {A : Around} {s : Shared} {E : Value → Shared → Prop} {a b : Addr} {vs us : List Value} {xs : List Str} {Q : Value → Shared → Prop} {n1 n2 : Nat} (hl : s.heap.get? a = some (W.listOf vs.toArray n1)) (hi : StrsAre vs xs) (hl' : s.heap.get? b = some (W.listOf us.toArray n2)) (hi' : StrsAre us xs) (o1 : okS xs) (hu : A.units + 64 < cLine)
    (h : Q (.bool false) s) : wpAny (model prog w) A (compareOp .NotEq (.ref a) (.ref b)) Q E s :=
  ne_strsK (listO_is hl) hi (listO_is hl') hi' o1 o1 hu (by rw [decide_eq_true rfl]; exact h)
theorem eq_same {prog : Program} {w : World} {A : Around} {s : Shared} {E : Value → Shared → Prop} {a b : Addr} {vs us : List Value} {xs : List Str} {Q : Value → Shared → Prop} {n1 n2 : Nat} (hl : s.heap.get? a = some (W.listOf vs.toArray n1)) (hi : StrsAre vs xs) (hl' : s.heap.get? b = some (W.listOf us.toArray n2)) (hi' : StrsAre us xs) (o1 : okS xs) (hu : A.units + 64 < cLine)
    (h : Q (.bool true) s) : wpAny (model prog w) A (compareOp .Eq (.ref a) (.ref b)) Q E s :=
  eq_strsK (listO_is hl) hi (listO_is hl') hi' o1 o1 hu (by rw [decide_eq_true rfl]; exact h)
theorem proj_snoc {a b x : Int} {row : List Int} {i : Nat} (h : row[i]? = some x) : proj a b (row.take (i + 1)) = if x = a ∨ x = b then proj a b (row.take i) ++ [x] else proj a b (row.take i) := by
  rw [take_snoc h, proj_append]
  unfold proj
  split
  · next q => rw [List.filter_cons, if_pos (decide_eq_true q), List.filter_nil]
  · next q => rw [List.filter_cons, if_neg (by rw [decide_eq_true_eq]; exact q), List.filter_nil, List.append_nil]
theorem news_drop {h₀ h : Heap} {L : Addr} {pre r : List (Addr × Obj)} (N : News h₀ L h (pre ++ r)) : News h₀ L h r := fun p hp => N p (List.mem_append_right _ hp)
theorem law1 : PySem.Challenge.rw_wn0034_01.Holds := hd1 (by
  k_with_none
  k_with "call ref" => refine Halt.out ?_
  k_with "pyIter ref" => refine Halt.out ?_
  k_with "call builtin:list.append" => (k_here; k_dflt (refine append_own (by k_asm) (by k_asm) (by k_upd) (by ((try simp only [List.length_append, List.length_cons, List.length_nil]); omega)) ?_; k_whole); intro h' F' N'; (try k_sweep))
  k_with "loadName" => (k_here; k_dflt (refine loadX_L (by k_asm) (by assumption) ?_; k_whole))
  k_with "exec For Name Call cons nil" => k_dflt (refine wpAny_For ?_)
  k_with "exec For Name Name cons nil" => k_dflt (refine wpAny_For ?_)
  k_with "exec For Name Attribute cons nil" => k_dflt (refine wpAny_For ?_)
  k_with "eval Name" => (k_here; (with_reducible show wpAny _ _ (eval (Expr.Name _ _) (compEnvC _ _ _ _)) _ _ _); k_dflt (first | refine ldT_global (by k_asm) (by assumption) (by assumption) (by k_is) ?_ | refine ldT_built (by k_asm) (by assumption) (by assumption) (by k_is) (by boot_by_name) (by decide) ?_))
  k_with "eval ListComp" => k_dflt (refine Comp_ev (by with_unfolding_all rfl) (by rfl) (by decide) ?_)
  k_with "exec Assign cons ListComp" => k_dflt (refine Comp_as (by with_unfolding_all rfl) (by with_unfolding_all rfl) (by rfl) (by decide) ?_)
  k_with "exec For Name Subscript cons nil" => k_dflt (refine wpAny_For ?_)
  k_with "eval Name" => (k_here; k_dflt (refine nameX_L (by k_asm) (by assumption) ?_; k_whole))
  k_with "compareOp NotEq ref ref" => refine Halt.out ?_
  k_with "compareOp Eq ref ref" => refine Halt.out ?_
  k_with "binaryOp Add ref ref" => refine Halt.out ?_
  k_with "exec If" => refine wpAny_If ?_
  k_with "call builtin:len" => refine Halt.out ?_
  k_with "subscriptTail Name Name ref int" => refine Halt.out ?_
  k_go0
  (all_goals try k_fold)
  refine abs_law fun R fr gd hR => ?_
  k_steps
  rename World => w
  rename Top _ _ _ _ _ _ => T
  have T := topRead_of T
  rename PySem.W.Frag.In _ _ => X
  rename Fr _ _ _ _ => F
  rename News _ _ _ _ => N
  rename Heap.IsList _ _ _ => hL
  rename IntsAre _ _ => hI
  refine ⟨?_⟩
  refine call_Fn (cells_spec w _ _ rfl _ (X.keeps F.keep) (T.keeps F.keep) _ _ _ (hL.at fun o e => F.keep _ o e) hI (by omega)) rfl (by dsimp only [recursionLimit]; omega) (by dsimp only [cLine]; omega) ?_
  rintro v h2 tk2 hk2 ⟨zc, tc, nc, cc, rfl, fc, ic, lc⟩
  have F2 := F.keeps hk2
  have N2 := fc.news F (N.grown hk2)
  simp only [List.cons_append, List.nil_append] at N2
  have nec := fresh_nes fc N
  simp only [List.forall_mem_cons] at nec
  clear F N fc
  (try dsimp only)
  k_steps
  refine ⟨?_⟩
  rename Fr _ _ _ _ => F3
  rename News _ _ _ _ => N3
  obtain ⟨vn, N3, hn⟩ := names_gen N3
  refine call_Fn (ties_spec w _ _ rfl _ (X.keeps F3.keep) (T.keeps F3.keep) _ _ trivial) rfl (by dsimp only [recursionLimit]; omega) (by dsimp only [cLine]; omega) ?_
  rintro v h4 tk4 hk4 ⟨zt, a0, a1, a2, a3, v0, v1, v2, v3, n0, n1, n2, n3, c0, c1, c2, c3, c4, rfl, ft, it, gt, lt⟩
  have net := fresh_nes ft N3
  simp only [List.forall_mem_cons] at net
  have F4 := F3.keeps hk4
  have N4 := ft.news F3 (N3.grown hk4)
  simp only [List.cons_append, List.nil_append] at N4
  clear F3 N3 ft
  (try dsimp only)
  k_steps
  refine ⟨?_⟩
  rename Fr _ _ _ _ => F5
  rename News _ _ _ _ => N5
  rename IntsAre tc nc => ic
  refine call_Fn (row_spec w _ _ rfl _ (X.keeps F5.keep) (T.keeps F5.keep) _ _ _ _ _ (listO_is (N5.get (.tail _ (.tail _ (.tail _ (.tail _ (.tail _ (.tail _ (.head _))))))))) ic lc (ties_at (N5.get (.head _)) (N5.get (.tail _ (.head _))) (N5.get (.tail _ (.tail _ (.head _)))) (N5.get (.tail _ (.tail _ (.tail _ (.head _))))) (N5.get (.tail _ (.tail _ (.tail _ (.tail _ (.head _)))))) it lt)) rfl (by dsimp only [recursionLimit]; omega) (by dsimp only [cLine]; omega) ?_
  rintro v h6 tk6 hk6 ⟨zr, tr, row, cr, rfl, fr, ir, hr1, hr2, hr4⟩
  have ner := fresh_nes fr N5
  simp only [List.forall_mem_cons] at ner
  have F6 := F5.keeps hk6
  have N6 := fr.news F5 (N5.grown hk6)
  simp only [List.cons_append, List.nil_append] at N6
  clear F5 N5 fr
  (try dsimp only)
  k_steps
  refine ⟨?_⟩
  rename Fr _ _ _ _ => F7
  rename News _ _ _ _ => N7
  rename IntsAre tr row => ir
  have irl := ir.length
  refine list_J (nx := []) (old := [_, _, _, _, _, _, _, _, _, _, _]) (fun i ys nx => nx = [] ∧ StrsAre ys ((row.take i).map nm)) (fun g => compK_asn rfl rfl) rfl (listO_is (N7.get (.head _))) (by rw [sizeLine_eq]; omega) ?_ F7 N7 ⟨rfl, .nil⟩ ?_ ?_
  · rintro i ys nx h8 _ ⟨rfl, _⟩ F8 N8 o e
    rw [N7.get (.head _)] at e
    cases e
    exact N8.get (.head _)
  · rintro i v I oI C oC D m₃ ys nx h8 tk8 hi hv ⟨rfl, hy⟩ hC hm₃ hl8 F8 N8 off8 ne8 lt8
    obtain ⟨x, tx, rfl, hxi⟩ := ir.at _ _ hv
    have hx4 := hr4 x (List.mem_of_getElem? hxi)
    clear F7 N7
    refine abs_C fun R R' hR hR' => ?_
    refine TestsP.nil_if ?_
    simp only [List.nil_append] at N8
    (try dsimp only)
    k_steps
    refine ⟨?_⟩
    refine item_names (N8.get (.tail _ (.tail _ (.tail _ (.tail _ (.tail _ (.tail _ (.tail _ (.tail _ (.tail _ (.head _))))))))))) hn hx4 fun t9 => ?_
    (try dsimp only)
    have F9 := F8
    have N9 := N8
    refine hR _ _ <| CTurn.n0 F9 N9 (fun p hp => hp) ⟨rfl, ?_⟩
    rw [List.take_add_one, hxi, Option.toList_some, List.map_append, List.map_cons, List.map_nil]
    exact hy.append' (.cons _ _ .nil)
  rintro D h8 tk8 ys nx ⟨rfl, hy⟩ F8 N8 off8
  rw [irl, List.take_length] at hy
  have ne8 := fun p hp => neN (off8 p hp)
  simp only [List.nil_append, List.forall_mem_cons] at ne8
  clear F7 N7
  simp only [List.nil_append] at N8
  (try dsimp only)
  k_steps
  refine ⟨?_⟩
  have hyl := hy.length
  rw [List.length_map] at hyl
  refine call_Fn (record_spec w _ _ rfl _ (X.keeps F8.keep) (T.keeps F8.keep) _ _ _ _ _ _ (N8.get (.head _)) (N8.get (.head _)) (by omega) (by omega)) rfl (by dsimp only [recursionLimit]; omega) (by dsimp only [cLine]; omega) ?_
  rintro v h9 tk9 hk9 ⟨zw, rfl, ⟨dw, w1, w2, b1, b2, t1, t2, t3, t4, fw⟩⟩
  have new := fresh_nes fw N8
  simp only [List.forall_mem_cons] at new
  have F9 := F8.keeps hk9
  have N9 := fw.news F8 (N8.grown hk9)
  simp only [List.cons_append, List.nil_append] at N9
  clear F8 N8 fw
  (try dsimp only)
  k_steps
  refine ⟨?_⟩
  rename IsRange _ _ _ _ _ _ _ _ => R1
  rename Fr _ _ _ _ => F10
  rename News _ _ _ _ => N10
  clear nec net ner new ne8 off8
  obtain ⟨old, hold, N10, m1, m2, m3, m4, m5, m6, m7, m8, m9, m10, m11, m12⟩ := pack N10
  have hnc : ∀ p ∈ old, ∀ v, p.2.data ≠ .cell v := by
    rw [hold]
    intro p hp v
    simp only [List.mem_cons, List.not_mem_nil, or_false] at hp
    rcases hp with rfl | rfl | rfl | rfl | rfl | rfl | rfl | rfl | rfl | rfl | rfl | rfl <;> exact fun h => nomatch h
  have hocl := cells_off N10 (N10.get (.head _)) (by assumption) hnc
  have hoch := cells_off N10 (N10.get (.tail _ (.head _))) (by assumption) hnc
  clear hnc
  refine For_range_J (n := 4) (news := [_, _]) (old := _ :: old) (fun i => lwJ (T4 n0 n1 n2 n3) row zt zr D zw _ _ i 0) rfl R1 (small_one (by omega) (by omega) (by omega) (by omega)) rfl F10 N10 ⟨_, _, _, _, rfl, ⟨_, by assumption⟩, ⟨_, by assumption⟩, rfl, rfl, rfl, rfl, rfl, comm_start _ _⟩ ?_ ?_
  · rintro i ti m₁ nx h tk I oI hi ⟨ol, oh, c, t, rfl, ⟨vl, hol⟩, ⟨vh, hoh⟩, e1, e2, e3, e4, e5, hc⟩ hI hoff ⟨vs2, hoI⟩ F11 N11
    refine abs_T fun R hR => ?_
    clear F10 N10 R1
    have fl := neN (hoff _ (.head _))
    have fh := neN (hoff _ (.tail _ (.head _)))
    dsimp only at fl fh
    simp only [List.cons_append, List.nil_append] at N11
    k_unmd
    k_fold
    (try dsimp only)
    k_steps
    refine ⟨?_⟩
    rename Fr _ _ _ _ => F12
    rename News _ _ _ _ => N12
    refine item_tiesN (c0 := c0) (c1 := c1) (c2 := c2) (c3 := c3) (N12.get (skip4 m7)) it lt (by omega) (by omega) fun a va ca hma hia hla => ?_
    rw [show (0 + (i : Int)).toNat = i by omega] at hia
    have hma := mem4 hma m8 m9 m10 m11
    have hlia := hia.length
    (try dsimp only)
    k_steps
    refine ⟨?_⟩
    refine For_list_J (news := [_, _]) (old := _ :: _ :: old) (lwK (T4 n0 n1 n2 n3) row zt zr D zw _ _ (.int (0 + i) ti) i) rfl (listO_is (N12.get (skip4 hma))) F12 N12 ⟨_, _, _, _, rfl, ⟨_, hol⟩, by assumption, e1, e2, e3, e4, e5, hc⟩ ?_ ?_ ?_
    · rintro j m₂ nx h13 _ ⟨ol, oh, c, t, rfl, _⟩ F13 N13 o e
      rw [(N12.get (skip4 hma))] at e
      cases e
      exact N13.get (skip4 hma)
    · rintro j v m₂ nx h13 tk13 I2 oI2 hj hv ⟨ol, oh, c, t, rfl, ⟨vl, hol⟩, hoh, e1, e2, e3, e4, e5, hc⟩ hI2 hoff2 ⟨vs3, hoI2⟩ hl13 F13 N13
      refine abs_T fun R hR => ?_
      clear F12 N12
      obtain ⟨x, tx, rfl, hx⟩ := hia.at _ _ hv
      have gl := neN (hoff2 _ (.head _))
      have gh := neN (hoff2 _ (.tail _ (.head _)))
      dsimp only at gl gh
      simp only [List.cons_append, List.nil_append] at N13
      k_unmd
      k_fold
      (try dsimp only)
      k_steps
      case' _ =>
        refine ⟨?_⟩
        rename x ≤ 0 + (i : Int) => hle
        have hx4 := gt.within i hi x (List.mem_of_getElem? hx)
        rename Fr _ _ _ _ => F14
        rename News _ _ _ _ => N14
        have hln14 := N14.get (.tail _ (skip4 m12))
        refine item_names hln14 hn ⟨by omega, by omega⟩ fun t15 => ?_
        (try dsimp only)
        k_steps
        refine ⟨?_⟩
        refine item_names hln14 hn hx4 fun t16 => ?_
        (try dsimp only)
        k_steps
        refine ⟨?_⟩
        refine item_names hln14 hn ⟨by omega, by omega⟩ fun t17 => ?_
        clear hln14
        (try dsimp only)
        k_steps
        refine ⟨?_⟩
        rename Fr _ _ _ _ => F15
        rename News _ _ _ _ => N15
        obtain ⟨vp, N15, hp⟩ := pair_gen N15
        rw [Int.zero_add] at hp
        have hpl := hp.length
        rw [show [nm (i : Int), nm x, nm (i : Int)].length = 3 from rfl] at hpl
        refine call_Fn (record_spec w _ _ rfl _ (X.keeps F15.keep) (T.keeps F15.keep) _ _ _ _ _ _ (N15.get (.head _)) (N15.get (.head _)) (by omega) (by omega)) rfl (by dsimp only [recursionLimit]; omega) (by dsimp only [cLine]; omega) ?_
        rintro v h16 tk16 hk16 ⟨zo, rfl, ⟨do', x1, x2, d1, d2, u1, u2, u3, u4, fo⟩⟩
        have F16 := F15.keeps hk16
        have N16 := fo.news F15 (N15.grown hk16)
        simp only [List.cons_append, List.nil_append] at N16
        clear F15 N15 fo hk16
        (try dsimp only)
        k_steps
        refine ⟨?_⟩
        rename Fr _ _ _ _ => F17
        rename News _ _ _ _ => N17
        have z1 := N17.get (skip9 (.tail _ m1))
        have z2 := N17.get (skip9 (.tail _ m2))
        have z3 := N17.get (skip9 (.tail _ m3))
        have z4 := N17.get (skip9 (.tail _ m4))
        refine call_Fn (merge_spec w _ _ rfl _ (X.keeps F17.keep) (T.keeps F17.keep) zw zo ys ys vp vp (row.map nm) [nm (i : Int), nm x, nm (i : Int)] ⟨dw, w1, w2, _, _, _, _, _, _, z1, z2, z3, z4⟩ ⟨do', x1, x2, _, _, _, _, _, _, N17.get (.head _), N17.get (.tail _ (.head _)), N17.get (.tail _ (.tail _ (.head _))), N17.get (.tail _ (.tail _ (.tail _ (.head _))))⟩ hy hp (by omega) (by rw [hpl]; decide) (by omega)) rfl (by dsimp only [recursionLimit]; omega) (by dsimp only [cLine]; omega) ?_
        clear z1 z2 z3 z4
        rintro v h18 tk18 hk18 ⟨zp, rfl, ⟨dp', q1, q2, d3, d4, u5, u6, u7, u8, fp⟩⟩
        have F18 := F17.keeps hk18
        have N18 := fp.news F17 (N17.grown hk18)
        simp only [List.cons_append, List.nil_append] at N18
        have hag := keep_strs (S := fun k => decide (k ∈ [nm (i : Int), nm x, nm (i : Int)])) hy
        rw [part_strs hr4 ⟨by omega, by omega⟩ hx4] at hag
        have hall := (List.length_filter_le (keepS fun k => decide (k ∈ [nm (i : Int), nm x, nm (i : Int)])) ys)
        generalize ys.filter (keepS fun k => decide (k ∈ [nm (i : Int), nm x, nm (i : Int)])) = vg at N18 hag hall
        clear F17 N17 fp hk18
        (try dsimp only)
        k_steps
        refine ⟨?_⟩
        rename Fr _ _ _ _ => F19
        rename News _ _ _ _ => N19
        refine add_K F19 N19 (listO_is (N19.get (skip4 (skip9 (.tail _ m5))))) (listO_is (N19.get (skip4 (skip4 (.head _))))) (by omega) fun D2 h20 F20 N20 lt20 => ?_
        clear F19 N19
        k_lt lt20
        (try dsimp only)
        k_steps
        refine ⟨?_⟩
        have hp4 : In4 [(i : Int), x, (i : Int)] := by
          intro y hy
          simp only [List.mem_cons, List.not_mem_nil, or_false] at hy
          rcases hy with rfl | rfl | rfl
          · omega
          · exact hx4
          · omega
        have ok1 : okS (row.map nm ++ [nm (i : Int), nm x, nm (i : Int)]) := by
          have : row.map nm ++ [nm (i : Int), nm x, nm (i : Int)] = (row ++ [(i : Int), x, (i : Int)]).map nm := by rw [List.map_append]; rfl
          rw [this]
          refine okS_nm fun y hy => ?_
          rcases List.mem_append.mp hy with hy | hy
          · exact hr4 y hy
          · exact hp4 y hy
        rename Fr _ _ _ _ => F21
        rename News _ _ _ _ => N21
        refine ne_same (N21.get (skip4 (.head _))) (hy.append' hp) (N21.get (.head _)) (hy.append' hp) ok1 (by dsimp only [cLine]; omega) ?_
        (try dsimp only)
        k_steps
        refine ⟨?_⟩
        rename Fr _ _ _ _ => F22
        rename News _ _ _ _ => N22
        have gr := N22.get (skip9 (skip4 (.tail _ (.tail _ m6))))
        refine list_J (nx := []) (old := _) (fun i' zs nx => nx = [] ∧ StrsAre zs ((proj i x (row.take i')).map nm)) (fun g => compK_ev) rfl (listO_is gr) (by rw [sizeLine_eq]; omega) ?_ F22 N22 ⟨rfl, .nil⟩ ?_ ?_
        · rintro i' zs nx h23 _ ⟨rfl, _⟩ F23 N23 o e
          rw [gr] at e
          cases e
          exact N23.get (skip9 (skip4 (.tail _ (.tail _ m6))))
        · rintro i' v I3 oI3 C oC D3 m₃ zs nx h23 tk23 hi' hv' ⟨rfl, hz⟩ hC hm₃ hl23 F23 N23 off23 ne23 lt23
          obtain ⟨y, ty, rfl, hyi⟩ := ir.at _ _ hv'
          have hy4 := hr4 y (List.mem_of_getElem? hyi)
          clear F22 N22 gr
          refine abs_C fun R R' hR hR' => ?_
          refine TestsP.one_if ?_
          simp only [List.nil_append] at N23
          (try dsimp only)
          k_steps
          case' _ =>
            refine ⟨?_⟩
            rename (List.any [_, _] _) = true => q9
            rename Fr _ _ _ _ => F24
            rename News _ _ _ _ => N24
            refine item_names (N24.get (skip4 (skip9 (skip4 (.tail _ (.tail _ m12)))))) hn hy4 fun t24 => ?_
            (try dsimp only)
            have q10 : y = (i : Int) ∨ y = x := by
              have := any_mem q9
              simp only [List.mem_cons, List.not_mem_nil, or_false, Int.zero_add] at this
              exact this
            refine hR _ _ <| CTurn.n0 F24 (news_drop (pre := [_]) N24) (fun p hp => hp) ⟨rfl, ?_⟩
            rw [proj_snoc hyi, if_pos q10, List.map_append, List.map_cons, List.map_nil]
            exact hz.append' (.cons _ _ .nil)
          case _ =>
            rename (List.any [_, _] _) = false => q9
            rename Fr _ _ _ _ => F24
            rename News _ _ _ _ => N24
            have q10 : ¬ (y = (i : Int) ∨ y = x) := by
              have := any_nmem q9
              simp only [List.mem_cons, List.not_mem_nil, or_false, Int.zero_add] at this
              exact this
            refine hR' _ <| CTurn.n0 F24 (news_drop (pre := [_]) N24) (fun p hp => hp) ⟨rfl, ?_⟩
            rw [proj_snoc hyi, if_neg q10]
            exact hz
        · rintro D3 h23 tk23 zs nx ⟨rfl, hz⟩ F23 N23 off23
          rw [irl, List.take_length] at hz
          clear F22 N22 gr off23
          simp only [List.nil_append] at N23
          (try dsimp only)
          have okg : okS ((proj i x row).map nm) := okS_nm fun y hy => hr4 y (mem_proj.mp hy).1
          k_steps
          refine ⟨?_⟩
          refine ne_same (N23.get (skip4 (.head _))) hag (N23.get (.head _)) hz okg (by dsimp only [cLine]; omega) ?_
          (try dsimp only)
          k_steps
          refine ⟨?_⟩
          have okp : okS [nm (i : Int), nm x, nm (i : Int)] := okS_nm hp4
          refine ne_same (N23.get (skip4 (skip4 (.head _)))) hp (N23.get (skip9 (.tail _ (.head _)))) hp okp (by dsimp only [cLine]; omega) ?_
          (try dsimp only)
          k_steps
          refine ⟨?_⟩
          refine ne_same (N23.get (skip9 (.head _))) hp (N23.get (skip9 (.tail _ (.head _)))) hp okp (by dsimp only [cLine]; omega) ?_
          (try dsimp only)
          k_steps
          refine ⟨?_⟩
          rename Fr _ _ _ _ => F25
          rename News _ _ _ _ => N25
          refine ne_strsK (listO_is (N25.get (skip4 (.tail _ (.head _))))) hag (vs := vg) (us := []) (ys := []) (listO_is (N25.get (.head _))) .nil okg (by intro y hy; cases hy) (by dsimp only [cLine]; omega) ?_
          (try dsimp only)
          k_steps
          case' _ =>
            rename decide (List.map nm (proj i x row) = []) = true => q9
            have q10 : proj i x row = [] := by simpa using q9
            rename Fr _ _ _ _ => F26
            rename News _ _ _ _ => N26
            (try dsimp only)
            exact hR _ _ <| TurnEnd.split (nx := [_, _]) F26 (news_drop (pre := [_, _, _, _, _, _, _, _, _, _, _, _]) N26) (off1 gl (off1 gh off0)) ⟨_, _, _, _, rfl, ⟨_, by assumption⟩, hoh, e1, e2, e3, e4, e5, hc.none hx q10⟩
          case _ =>
            refine ⟨?_⟩
            rename decide (List.map nm (proj i x row) = []) = false => q9
            have q10 : proj i x row ≠ [] := by
              have := of_decide_eq_false q9
              exact fun q => this (by rw [q]; rfl)
            rename Fr _ _ _ _ => F26
            rename News _ _ _ _ => N26
            have hagl := hag.length
            refine call_Fn (often_spec w _ _ rfl _ (X.keeps F26.keep) (T.keeps F26.keep) _ _ _ (listO_is (N26.get (skip4 (.tail _ (.head _))))) hag (by rw [List.length_map]; exact List.length_pos_iff.mpr q10) (by omega)) rfl (by dsimp only [recursionLimit]; omega) (by dsimp only [cLine]; omega) ?_
            rintro v h27 tk27 hk27 ⟨t27, rfl⟩
            have F27 := F26.keeps hk27
            have N27 := N26.grown hk27
            clear F26 N26 hk27
            (try dsimp only)
            k_steps
            refine ⟨?_⟩
            rename Fr _ _ _ _ => F28
            rename News _ _ _ _ => N28
            refine call_Fn (common_spec w _ _ rfl _ (X.keeps F28.keep) (T.keeps F28.keep) _ _ _ _ hc.1 (by omega)) rfl (by dsimp only [recursionLimit]; omega) (by dsimp only [cLine]; omega) ?_
            rintro v h29 tk29 hk29 ⟨t29, rfl⟩
            have F29 := F28.keeps hk29
            have N29 := N28.grown hk29
            clear F28 N28 hk29
            (try dsimp only)
            k_steps
            rename Fr _ _ _ _ => F30
            rename News _ _ _ _ => N30
            (try dsimp only)
            exact hR _ _ <| TurnEnd.split (nx := [_, _]) F30 (news_drop (pre := [_, _, _, _, _, _, _, _, _, _, _, _]) N30) (off1 gl (off1 gh off0)) ⟨_, _, _, _, rfl, ⟨_, by assumption⟩, hoh, e1, e2, e3, e4, rfl, hc.step hr4 hx (by omega) q10⟩
      case _ =>
        rename ¬ x ≤ 0 + (i : Int) => hle
        rename Fr _ _ _ _ => F26
        rename News _ _ _ _ => N26
        (try dsimp only)
        exact hR _ _ <| TurnEnd.split (nx := [_, _]) F26 N26 (off1 gl (off1 gh off0)) ⟨_, _, _, _, rfl, ⟨_, by assumption⟩, hoh, e1, e2, e3, e4, e5, hc.skip hx (by omega)⟩
    · rintro m₂ nx h13 tk13 ⟨ol, oh, c, t, rfl, ⟨vl, hol⟩, hoh, e1, e2, e3, e4, e5, hc⟩ F13 N13
      clear F12 N12
      simp only [List.cons_append, List.nil_append] at N13
      k_unmd
      k_fold
      (try dsimp only)
      k_steps
      (try dsimp only)
      exact hR _ _ <| TurnEnd.split (nx := [_, _]) F13 N13 (off1 fl (off1 fh off0)) ⟨_, _, _, _, rfl, ⟨_, hol⟩, ⟨_, hoh⟩, e1, e2, e3, e4, e5, hc.next hlia⟩
  · rintro m₁ nx h tk ⟨ol, oh, c, t, rfl, ⟨vl, hol⟩, ⟨vh, hoh⟩, e1, e2, e3, e4, e5, hc⟩ F11 N11
    clear F10 N10 R1
    simp only [List.cons_append, List.nil_append] at N11
    k_unmd
    k_fold
    (try dsimp only)
    k_steps
    refine ⟨?_⟩
    refine len_list (listO_is (N11.get (.tail _ (.tail _ (.tail _ m6))))) (by rw [List.size_toArray]; omega) ?_
    (try dsimp only)
    rw [show ((tr.toArray.size : Nat) : Int) = (row.length : Int) by rw [List.size_toArray, irl]]
    k_steps
    refine ⟨?_⟩
    rename IsRange _ _ _ _ _ _ _ _ => R2
    rename Fr _ _ _ _ => F12
    rename News _ _ _ _ => N12
    refine For_range_J (n := row.length) (news := []) (old := _) (fun _ m nx => nx = [] ∧ m (Str.ofString "ties") = some (.ref zt) ∧ m (Str.ofString "row") = some (.ref zr) ∧ m (Str.ofString "letters") = some (.ref D) ∧ m (Str.ofString "whole") = some (.ref zw) ∧ m (Str.ofString "common") = some (.int c t)) rfl R2 (small_one (by omega) (by omega) (by omega) (by omega)) ?_ F12 N12 ⟨rfl, e1, e2, e3, e4, e5⟩ ?_ ?_
    · rw [rangeSize_one]; split <;> omega
    · rintro i ti m₁ nx h13 tk13 I oI hi ⟨rfl, e1, e2, e3, e4, e5⟩ hI hoff ⟨vs2, hoI⟩ F13 N13
      refine abs_T fun R hR => ?_
      clear F12 N12 R2
      simp only [List.nil_append] at N13
      k_unmd
      k_fold
      (try dsimp only)
      k_steps
      refine ⟨?_⟩
      rename Fr _ _ _ _ => F14
      rename News _ _ _ _ => N14
      refine call_Fn (power_spec w _ _ rfl _ (X.keeps F14.keep) (T.keeps F14.keep) _ _ _ _ _ _ _ _ _ _ _ (N14.get (skip4 m6)) ir hr2 hr4 (by omega) (by omega)
        (ties_at (N14.get (skip4 m7)) (N14.get (skip4 m8)) (N14.get (skip4 m9)) (N14.get (skip4 m10)) (N14.get (skip4 m11)) it lt) (N14.get (skip4 m12)) hn) rfl (by dsimp only [recursionLimit]; omega) (by dsimp only [cLine]; omega) ?_
      rintro v h15 tk15 hk15 rfl
      have hd : (c.fmod (1 + (i : Int)) == 0) = powerP (T4 n0 n1 n2 n3) row (1 + (i : Int)) := hc.done gt hr4 (by omega)
      rw [← hd]
      have F15 := F14.keeps hk15
      have N15 := N14.grown hk15
      clear F14 N14 hk15
      (try dsimp only)
      k_steps
      all_goals (try (rename (_ != _) = true => q9; exact absurd q9 (by simp)))
      (try dsimp only)
      exact hR _ _ <| TurnEnd.n0 F15 N15 ⟨rfl, e1, e2, e3, e4, e5⟩
    · rintro m₁ nx h13 tk13 ⟨rfl, e1, e2, e3, e4, e5⟩ F13 N13
      subst hold
      clear F12 N12 R2
      simp only [List.nil_append] at N13
      k_unmd
      k_fold
      (try dsimp only)
      k_steps
      refine ⟨?_⟩
      have okl : okS (row.map nm) := okS_nm hr4
      refine eq_same (N13.get (.tail _ (.tail _ (.tail _ m3)))) hy (N13.get (.tail _ (.tail _ (.tail _ m5)))) hy okl (by dsimp only [cLine]; omega) ?_
      (try dsimp only)
      k_steps
      refine ⟨?_⟩
      rename Fr _ _ _ _ => F14
      rename News _ _ _ _ => N14
      refine call_Fn (overlap_spec w _ _ rfl _ (X.keeps F14.keep) (T.keeps F14.keep) _ _ _ (listO_is (N14.get (.tail _ (.tail _ (.tail _ m5))))) hy (by rw [List.length_map]; omega)) rfl (by dsimp only [recursionLimit]; omega) (by dsimp only [cLine]; omega) ?_
      rintro v h15 tk15 hk15 ⟨z1, ts1, m1, rfl, ez1, iz1⟩
      have F15 := F14.keeps hk15
      have N15 := N14.grown hk15
      clear F14 N14 hk15
      (try dsimp only)
      k_steps
      refine ⟨?_⟩
      refine call_Fn (table_spec w _ _ rfl _ (X.keeps F15.keep) (T.keeps F15.keep) _ _ _ (listO_is (N15.get (.tail _ (.tail _ (.tail _ m5))))) hy okl (by rw [List.length_map]; omega)) rfl (by dsimp only [recursionLimit]; omega) (by dsimp only [cLine]; omega) ?_
      rintro v h17 tk17 hk17 ⟨z2, ts2, m2, rfl, ez2, iz2⟩
      have F17 := F15.keeps hk17
      have N17 := N15.grown hk17
      have ez3 := hk17 _ _ ez1
      clear F15 N15
      (try dsimp only)
      k_steps
      refine ⟨?_⟩
      refine eq_intsK (listO_is ez3) iz1 (listO_is ez2) iz2 (by dsimp only [cLine]; omega) ?_
      rw [decide_eq_true rfl]
      k_steps
      refine hR _ _ ?_
      k_steps)
end Mine
end
theorem PySem.Challenge.cw_wn0034_01_holds : PySem.Challenge.rw_wn0034_01.Holds :=
  Mine.law1
