import PyProof.Rows.All
import Wide.All
import OpenK.AllK
import Wide.FinOn
import PySem.Challenge.RW_ao0004_01
set_option Elab.async false
set_option rowWalk.seconds 0
section
open PySem PySem.W PyProof.Rows
namespace Mine
set_option maxRecDepth 100000 in
set_option maxHeartbeats 8000000 in
open_top hd for PySem.Challenge.rw_ao0004_01
end Mine
end
theorem Mine.calm : True := by
  w_top off
  trivial
section
namespace Mine
theorem p1 {X R : Prop} (h : X ∧ R) : X := h.1
theorem p2 {A X R : Prop} (h : A ∧ X ∧ R) : X := h.2.1
theorem p3 {A B X R : Prop} (h : A ∧ B ∧ X ∧ R) : X := h.2.2.1
theorem p4 {A B C X R : Prop} (h : A ∧ B ∧ C ∧ X ∧ R) : X := h.2.2.2.1
theorem p5 {A B C D X R : Prop} (h : A ∧ B ∧ C ∧ D ∧ X ∧ R) : X := h.2.2.2.2.1
theorem q2 {A X : Prop} (h : A ∧ X) : X := h.2
theorem q3 {A B X : Prop} (h : A ∧ B ∧ X) : X := h.2.2
theorem q4 {A B C X : Prop} (h : A ∧ B ∧ C ∧ X) : X := h.2.2.2
theorem q5 {A B C D X : Prop} (h : A ∧ B ∧ C ∧ D ∧ X) : X := h.2.2.2.2
theorem un_lt {u a b c n : Nat} (h : u + c < n) (h2 : a + b ≤ c) : u + a + b < n := by
  rw [Nat.add_assoc]; exact Nat.lt_of_le_of_lt (Nat.add_le_add_left h2 u) h
end Mine
namespace Mine
/-- a fact put by: the arithmetic does not see it -/
def Kp (P : Prop) : Prop := P
theorem kp {P : Prop} (h : P) : Kp P := h
end Mine
end
local macro_rules | `(tactic| walk_at "cj") => `(tactic| with_reducible first | assumption | exact Mine.p1 ‹_› | exact Mine.p2 ‹_› | exact Mine.p3 ‹_› | exact Mine.p4 ‹_› | exact Mine.p5 ‹_› | exact Mine.q2 ‹_› | exact Mine.q3 ‹_› | exact Mine.q4 ‹_› | exact Mine.q5 ‹_›)
local macro_rules | `(tactic| walk_at "bd") => `(tactic| with_reducible first | exact @Nat.le_refl (@OfNat.ofNat Nat _ _) | (apply Nat.add_le_add <;> walk_at "bd") | assumption | exact Nat.le_of_eq ‹_›)
local macro_rules | `(tactic| omega) => `(tactic| first | walk_at "cj" | decide | with_reducible exact Nat.ne_of_lt (by walk_at "cj") | with_reducible exact Nat.ne_of_gt (by walk_at "cj") | with_reducible exact Ne.symm (by walk_at "cj") | ((with_reducible show @LE.le Nat _ _ _); first | with_reducible exact Nat.le_refl _ | with_reducible exact Nat.le_add_right _ _ | exact Nat.le_of_lt (by with_reducible assumption) | exact Nat.le_trans (by walk_at "bd") (by decide)) | ((with_reducible show @LT.lt Nat _ _ _); first | exact Nat.lt_of_le_of_lt (by walk_at "bd") (by decide) | exact Mine.un_lt (by with_reducible assumption) (by decide)) | with_reducible exact Int.natCast_nonneg _ | with_reducible exact Int.ofNat_lt.mpr (by assumption) | with_reducible exact Int.ofNat_le.mpr (by assumption) | ((with_reducible show @Eq Int _ _); exact rfl) | omega (config := {}))
section
open PySem PySem.W PyProof.Rows
namespace Mine
set_option linter.unusedVariables false
noncomputable abbrev PR := PySem.Challenge.rw_ao0004_01.row.prog
noncomputable abbrev VW := Mine.hd.view_39
noncomputable abbrev LW := looseW Mine.hd.view_39 []
/-- the law's list of state -/
abbrev stObj (sc : Addr) (i : Int) (ti : Tok) (x : Int) (tx : Tok) : Obj := listOf #[.ref sc, .int i ti, .int x tx] 0

/-- h' keeps what h holds, but at the addresses W -/
def Kept (W : List Addr) (h h' : Heap) : Prop := ∀ b o, h.get? b = some o → b ∉ W → h'.get? b = some o
theorem Kept.refl {W : List Addr} {h : Heap} : Kept W h h := fun _ _ e _ => e
theorem Kept.of {sub : List (Addr × Obj)} {h g h' : Heap} {L : Addr} {m : Str → Option Value} (G : GSub h g (sub.map (·.1))) (F : Fr g L h' m) : Kept (sub.map (·.1)) h h' := fun b o e n => F.keep b o (G b o e n)

theorem upd_after {h₀ h h' : Heap} {L d : Addr} {m : Str → Option Value} {news : List (Addr × Obj)} {g : Obj → List (Addr × Obj)} {o o' : Obj} (F : Fr h₀ L h m) (N : News h₀ L h news) (U : UpdF d o news g) (K : Kept [d] h h') (e : h'.get? d = some o') :
    Fr h₀ L h' m ∧ News h₀ L h' (g o') := by
  obtain ⟨pre, post, rfl, hg, h1, h2⟩ := U.split
  have hd := N (d, o) (by simp)
  rw [hg]
  refine ⟨⟨F.ns.at' fun o e => K _ _ e (by simpa using Ne.symm hd.2.1), fun b o e1 => K b o (F.keep b o e1) ?_, F.above⟩, fun p hp => ?_⟩
  · intro hb
    have hb' : b = d := by simpa using hb
    have h3 := hd.2.2
    subst hb'; dsimp only at h3; rw [h3] at e1; cases e1
  · rcases List.mem_append.mp hp with hp | hp
    · have := N p (by simp [hp]); exact ⟨K _ _ this.1 (by simpa using h1 p hp), this.2⟩
    · rcases List.mem_cons.mp hp with rfl | hp
      · exact ⟨e, hd.2⟩
      · have := N p (by simp [hp]); exact ⟨K _ _ this.1 (by simpa using h2 p hp), this.2⟩
theorem UpdF.mem {d : Addr} {o : Obj} {news : List (Addr × Obj)} {g : Obj → List (Addr × Obj)} (U : UpdF d o news g) : (d, o) ∈ news := by
  obtain ⟨pre, post, rfl, _⟩ := U.split; simp
theorem News.sub {h₀ h : Heap} {L : Addr} {news sub : List (Addr × Obj)} (N : News h₀ L h news) (hs : ∀ p ∈ sub, p ∈ news) : News h₀ L h sub := fun p hp => N p (hs p hp)

section
variable {prog : Program} {w : World} {A₀ A : Around} {s : Shared} {base h₀ : Heap} {outer : List Env} {L : Addr} {m : Str → Option Value} {env : Env} {news : List (Addr × Obj)}
theorem code_defR {K : Frag} {p : Program} {loose : List Str} {mean : ExcName → Option Value} {mg mb : Str → Option Value} {R : Result → Shared → Prop} {name qual : Str} {params : Arguments} {body : List Stmt} {scope : Scope} {dV kV doc pm cdv ct oc : Value} {an od : Option Addr} {osl : Array (Option Value)} {f : Addr} {args : Args} {binds : List (Str × Value)}
    (B : Below A₀ base outer h₀) (F : Fr h₀ L s.heap m) (X₀ : K.In h₀) (N : News h₀ L s.heap news) (T : Top p loose mean mg mb h₀) (hA : A.frames = some (env :: outer)) (hf : env.frame = some L) (hke : env.scope.kind = .function)
    (ho : K.lookup f = some ⟨oc, od, .func (fnOf name qual params body scope dV kV doc pm an cdv ct), osl⟩) (hcd : codeIn K cdv qual = true) (hroom : A.depth < recursionLimit)
    (hbind : BindsTo s (fnOf name qual params body scope dV kV doc pm an cdv ct) args binds) (hloc : ∀ y ∈ binds, scope.names.lookup y.1 = some .local)
    (h : ∀ g L' h₁, GSub s.heap g (news.map (·.1)) → s.heap.objs.size ≤ L' → Fr g L' h₁ (fun y => binds.reverse.lookup y) → News g L' h₁ news → Below A base (env :: outer) g → K.In g → Top p loose mean mg mb g →
      wpAny (model prog w) (A.deeper (envOf qual scope L' f cdv)) (execs body (envOf qual scope L' f cdv))
        (fun fl s' => R (.ok (.ret (match fl with | .ret v => v | _ => .none))) s')
        (fun e s' => wpAny (model prog w) (A.deeper (envOf qual scope L' f cdv)) (leaving (envOf qual scope L' f cdv) e) (fun _ s'' => R (.error e) s'') (fun e' s'' => R (.error e') s'') s')
        { s with heap := h₁, toks := s.toks + binds.length })
    (hco : scope.isCoroutine = false) (hgen : scope.isGenerator = false) (hk : scope.kind = .function)
    (hcell : ∀ x ∈ scope.names, x.2 ≠ .cell) : codeAny (model prog w) A (.call (.ref f) args) R s := by
  obtain ⟨FG, BG, st, lv⟩ := groundX (R := R) B F N hA hf hke
  refine codeAny_call_def (fd := fnX name qual params body scope [] dV kV doc pm an cdv ct) (body := body) (binds := binds) hroom ((X₀.keeps F.keep) _ _ ho) rfl (T.nolimit.keeps F.keep) (codeRec_of (X₀.keeps F.keep) hcd) rfl hbind hcell hloc (fun h₁ hns hk₁ => ?_) hco hgen hk
  exact wpAny_mono (h _ s.heap.objs.size h₁ (fun b o e n => hideAll_get _ e n) (Nat.le_refl _) ⟨hns, fun b o e => hk₁ b o (of_hideAll _ e), Nat.le_of_eq (hideAll_size _ _)⟩
    (fun p hp => ⟨hk₁ _ _ (N p hp).1, Nat.ne_of_lt (Heap.lt_size (N p hp).1), hideAll_none _ (List.mem_map_of_mem hp)⟩) BG (X₀.keeps st) (T.keeps st)) (fun fl s' hl => hl) fun _ _ y => y
theorem code_defCR {K : Frag} {p : Program} {loose : List Str} {mean : ExcName → Option Value} {mg mb : Str → Option Value} {R : Result → Shared → Prop} {name qual : Str} {params : Arguments} {body : List Stmt} {scope : Scope} {dV kV doc pm cdv ct oc : Value} {an od : Option Addr} {osl : Array (Option Value)} {f : Addr} {args : Args} {binds : List (Str × Value)}
    (B : Below A₀ base outer h₀) (F : Fr h₀ L s.heap m) (X₀ : K.In h₀) (N : News h₀ L s.heap news) (T : Top p loose mean mg mb h₀) (hA : A.frames = some (env :: outer)) (hf : env.frame = some L) (hke : env.scope.kind = .function)
    (ho : K.lookup f = some ⟨oc, od, .func (fnOf name qual params body scope dV kV doc pm an cdv ct), osl⟩) (hcd : codeIn K cdv qual = true) (hroom : A.depth < recursionLimit)
    (hbind : BindsTo s (fnOf name qual params body scope dV kV doc pm an cdv ct) args binds) (hkind : (binds.all fun y => scope.names.lookup y.1 == some .local || scope.names.lookup y.1 == some .cell) = true)
    (hnd : ((cellsFrom 0 scope.names []).map (·.1)).Nodup)
    (h : ∀ g L' h₁ tk cells, GSub s.heap g (news.map (·.1)) → s.heap.objs.size ≤ L' → Fr g L' h₁ (bindL (envOfC qual scope L' f cdv).kindOf binds fun _ => none) → News g L' h₁ (cells ++ news) →
      CellsAre (bindC (envOfC qual scope L' f cdv).kindOf binds fun _ => none) (cellsFrom (L' + 1) scope.names []) cells → Below A base (env :: outer) g → K.In g → Top p loose mean mg mb g → (∀ p ∈ news, p.1 < L') →
      wpAny (model prog w) (A.deeper (envOfC qual scope L' f cdv)) (execs body (envOfC qual scope L' f cdv))
        (fun fl s' => R (.ok (.ret (match fl with | .ret v => v | _ => .none))) s')
        (fun e s' => wpAny (model prog w) (A.deeper (envOfC qual scope L' f cdv)) (leaving (envOfC qual scope L' f cdv) e) (fun _ s'' => R (.error e) s'') (fun e' s'' => R (.error e') s'') s')
        { s with heap := h₁, toks := tk })
    (hco : scope.isCoroutine = false) (hgen : scope.isGenerator = false) (hk : scope.kind = .function) : codeAny (model prog w) A (.call (.ref f) args) R s := by
  obtain ⟨FG, BG, st, lv⟩ := groundX (R := R) B F N hA hf hke
  refine codeAny_call_function hroom ((X₀.keeps F.keep) _ _ ho) rfl hco hgen rfl (codeRec_of (X₀.keeps F.keep) hcd) (hbind _ _ _ _ ?_)
  refine wpAny_newFunctionEnv_cells hk (kindsX hkind _) fun env' he s' x => ?_
  subst he
  refine ⟨(T.nolimit.keeps F.keep).keeps x.toInCall.keep, codeAny_func ?_⟩
  obtain ⟨h₁, tk, rfl, _⟩ := x.done
  have hk₁ := x.toInCall.keep
  obtain ⟨cells, NC, Y⟩ := Cl.news (h₀ := s.heap) (Nat.le_refl _) fun n c hm => ⟨x.cell n c (lookup_of_mem_nodup (cellsFrom_names scope.names 0 (s.heap.objs.size + 1) [] [] rfl ▸ hnd) hm), x.above n c hm⟩
  refine wpAny_mono (h _ s.heap.objs.size h₁ tk cells (fun b o e n => hideAll_get _ e n) (Nat.le_refl _) ⟨x.toInCall.ns, fun b o e => hk₁ b o (of_hideAll _ e), Nat.le_of_eq (hideAll_size _ _)⟩ (fun p hp => ?_) Y BG (X₀.keeps st) (T.keeps st) (fun p hp => Heap.lt_size (N p hp).1)) (fun fl s' hl => hl) fun _ _ y => y
  rcases List.mem_append.mp hp with hp | hp
  · refine ⟨(NC p hp).1, (NC p hp).2.1, ?_⟩
    cases q : (hideAll s.heap (news.map (·.1))).get? p.1 with
    | none => rfl
    | some o => have := of_hideAll _ q; rw [(NC p hp).2.2] at this; cases this
  · exact ⟨hk₁ _ _ (N p hp).1, Nat.ne_of_lt (Heap.lt_size (N p hp).1), hideAll_none _ (List.mem_map_of_mem hp)⟩
end

section
open LCg
variable {prog : Program} {w : World} {A : Around} {s : Shared} {h₀ : Heap} {L : Addr} {m : Str → Option Value} {env : Env}
/-- a comprehension by what holds between its turns -/
theorem compRest_inv {elt : Expr} {x : Str} {scope : Scope} {cl : List (Str × Addr)} {S : List (Addr × Obj) → Prop} {P : Nat → Value → Prop} {Fin : List Value → List (Addr × Obj) → Prop} {n : Nat} (J : Nat → List Value → List (Addr × Obj) → Prop)
    (step : ∀ i ys news, i < n → J i ys news → ∀ v I oI C oC D m₂ h tk (E' : Value → Shared → Prop), P i v → NsObj oC m₂ → m₂ x = some v → Fr h₀ L h m → News h₀ L h ((I, oI) :: (C, oC) :: (D, lst ys) :: news) → Off3 I C D news → ((@Ne Nat I C) ∧ (@Ne Nat I D) ∧ (@Ne Nat C D)) →
      wpAny (model prog w) A (eval elt (compEnvC scope cl C env)) (CompEnd h₀ L m { s with heap := h, toks := tk } I oI C oC D (lst ys) S (fun y news' => J (i + 1) (ys ++ [y]) news')) E' { s with heap := h, toks := tk })
    (fin : ∀ ys news, J n ys news → Fin ys news) : ∀ k i ys news, k + i = n → J i ys news → CompRest prog w A h₀ L m env elt x scope cl s S P Fin k i ys news := by
  intro k
  induction k with
  | zero => intro i ys news e hj; obtain rfl : i = n := by omega
            exact fin ys news hj
  | succ k ih =>
    intro i ys news e hj
    refine CompRest.succ fun v I oI C oC D m₂ h tk E' hP hC hm F N o3 ne => ?_
    refine wpAny_mono (step i ys news (by omega) hj v I oI C oC D m₂ h tk E' hP hC hm F N o3 ne) (fun y s₂ c => ?_) fun _ _ z => z
    obtain ⟨h', tk', news', rfl, F', N', o', hS, r⟩ := c
    exact ⟨h', tk', news', rfl, F', N', o', hS, ih (i + 1) _ _ (by omega) r⟩

theorem rangeSize_k {k : Int} (hk : 0 ≤ k) : Builtin.Range.rangeSize 0 k 1 = ((k.toNat : Nat) : Int) := by
  rw [rangeSize_nat]; omega
theorem compSrc_range {elt : Expr} {x : Str} {scope : Scope} {cl : List (Str × Addr)} {Fin : Shared → List Value → List (Addr × Obj) → Prop} {r : Addr} {k : Int} {t u v : Tok} {news : List (Addr × Obj)} {s₁ : Shared} (J : Nat → List Value → List (Addr × Obj) → Prop)
    (hh : A.handled = none) (F : Fr h₀ L s₁.heap m) (N : News h₀ L s₁.heap news) (hr : IsRange s₁.heap r 0 k 1 t u v) (hk0 : 0 ≤ k) (hk1 : k ≤ 1000) (h0 : J 0 [] news)
    (step : ∀ (g : Heap) (i : Nat) ys news, (i : Int) < k → J i ys news → ∀ v I oI C oC D m₂ h tk (E' : Value → Shared → Prop), (∃ t, v = .int (0 + (i : Int)) t) → NsObj oC m₂ → m₂ x = some v → Fr h₀ L h m → News h₀ L h ((I, oI) :: (C, oC) :: (D, lst ys) :: news) → Off3 I C D news → ((@Ne Nat I C) ∧ (@Ne Nat I D) ∧ (@Ne Nat C D)) →
      wpAny (model prog w) A (eval elt (compEnvC scope cl C env)) (CompEnd h₀ L m { s₁ with heap := h, toks := tk } I oI C oC D (lst ys) (fun _ => True) (fun y news' => J (i + 1) (ys ++ [y]) news')) E' { s₁ with heap := h, toks := tk })
    (fin : ∀ (g : Heap) ys news, J k.toNat ys news → Fin { s₁ with heap := g } ys news) :
    CompSrc prog w A h₀ L m env elt x scope cl Fin (.ref r) s₁ := by
  refine CompSrc.range hh F N hr (small_one (by omega) (by omega) (by omega) (by omega)) (rangeSize_k hk0) (by rw [sizeLine_eq]; omega) fun g => ?_
  exact compRest_inv (s := { s₁ with heap := g }) (n := k.toNat) J (fun i ys news hi hj v I oI C oC D m₂ h tk E' hP hC hm F N o3 ne => step g i ys news (by omega) hj v I oI C oC D m₂ h tk E' hP hC hm F N o3 ne) (fin g) k.toNat 0 [] news rfl h0

/-- a comprehension over a range whose turns draw from the law's state -/
theorem compSrc_draws {elt : Expr} {x : Str} {scope : Scope} {cl : List (Str × Addr)} {Fin : Shared → List Value → List (Addr × Obj) → Prop} {r : Addr} {k : Int} {t u v : Tok} {news : List (Addr × Obj)} {f : Obj → List (Addr × Obj)} {sc st : Addr} {i₀ x₀ : Int} {ti₀ tx₀ : Tok} {s₁ : Shared} (J : Nat → List Value → Prop)
    (hh : A.handled = none) (F : Fr h₀ L s₁.heap m) (N : News h₀ L s₁.heap news) (U : UpdF st (stObj sc i₀ ti₀ x₀ tx₀) news f) (hr : IsRange s₁.heap r 0 k 1 t u v) (hk0 : 0 ≤ k) (hk1 : k ≤ 1000) (b1 : 0 ≤ i₀) (b2 : 0 ≤ x₀) (b3 : x₀ < 2147483647) (h0 : J 0 [])
    (step : ∀ (g : Heap) (i : Nat) ys i₂ ti₂ x₂ tx₂, (i : Int) < k → J i ys → 0 ≤ i₂ → 0 ≤ x₂ → x₂ < 2147483647 → ∀ v I oI C oC D m₂ h tk (E' : Value → Shared → Prop), (∃ t, v = .int (0 + (i : Int)) t) → NsObj oC m₂ → m₂ x = some v → Fr h₀ L h m → News h₀ L h ((I, oI) :: (C, oC) :: (D, lst ys) :: f (stObj sc i₂ ti₂ x₂ tx₂)) → Off3 I C D (f (stObj sc i₂ ti₂ x₂ tx₂)) → ((@Ne Nat I C) ∧ (@Ne Nat I D) ∧ (@Ne Nat C D)) →
      wpAny (model prog w) A (eval elt (compEnvC scope cl C env)) (CompEnd h₀ L m { s₁ with heap := h, toks := tk } I oI C oC D (lst ys) (fun _ => True) (fun y news' => J (i + 1) (ys ++ [y]) ∧ ∃ i₃ ti₃ x₃ tx₃, news' = f (stObj sc i₃ ti₃ x₃ tx₃) ∧ 0 ≤ i₃ ∧ 0 ≤ x₃ ∧ x₃ < 2147483647)) E' { s₁ with heap := h, toks := tk })
    (fin : ∀ (g : Heap) ys i₂ ti₂ x₂ tx₂, J k.toNat ys → 0 ≤ i₂ → 0 ≤ x₂ → x₂ < 2147483647 → Fin { s₁ with heap := g } ys (f (stObj sc i₂ ti₂ x₂ tx₂))) :
    CompSrc prog w A h₀ L m env elt x scope cl Fin (.ref r) s₁ := by
  refine compSrc_range (fun i ys news' => J i ys ∧ ∃ i₃ ti₃ x₃ tx₃, news' = f (stObj sc i₃ ti₃ x₃ tx₃) ∧ 0 ≤ i₃ ∧ 0 ≤ x₃ ∧ x₃ < 2147483647) hh F N hr hk0 hk1 ⟨h0, i₀, ti₀, x₀, tx₀, ?_, b1, b2, b3⟩ ?_ ?_
  · obtain ⟨pre, post, rfl, hg, _⟩ := U.split
    rw [hg]
  · rintro g i ys news' hi ⟨hj, i₃, ti₃, x₃, tx₃, rfl, c1, c2, c3⟩ v I oI C oC D m₂ h tk E' hP hC hm F N o3 ne
    exact step g i ys i₃ ti₃ x₃ tx₃ hi hj c1 c2 c3 v I oI C oC D m₂ h tk E' hP hC hm F N o3 ne
  · rintro g ys news' ⟨hj, i₃, ti₃, x₃, tx₃, rfl, c1, c2, c3⟩
    exact fin g ys i₃ ti₃ x₃ tx₃ hj c1 c2 c3
end
end Mine
end
section
open PySem PySem.W PyProof.Rows
namespace Mine

theorem fm (a : Int) {k : Int} (hk : 0 < k) : 0 ≤ a.fmod k ∧ a.fmod k < k := ⟨Int.fmod_nonneg_of_pos a hk, Int.fmod_lt_of_pos a hk⟩


set_option maxRecDepth 100000 in
set_option maxHeartbeats 4000000 in
theorem next_call {w : World} {mean : ExcName → Option Value} {mg mb : Str → Option Value} {dp un : Nat} {gd : Option (List Code)} {cn : Str} {cs : Scope} {a : Addr} {ccd : Value} {cl : List (Str × Addr)} {outer : List Env} {A₀ : Around} {base h₀ : Heap} {L : Addr}
    {m : Str → Option Value} {s : Shared} {Q E : Value → Shared → Prop} {st sc : Addr} {vs : List Value} {ns : List Int} {i x k : Int} {ti tx tk : Tok} {news : List (Addr × Obj)} {g : Obj → List (Addr × Obj)}
    (B : Below A₀ base outer h₀) (F : Fr h₀ L s.heap m) (X : (Mine.hd.heap_39 w.params).In h₀) (N : News h₀ L s.heap news) (T : Top VW LW mean mg mb h₀) (hk : cs.kind = .function)
    (hl : base.IsList sc vs.toArray) (hi : IntsAre vs ns) (hn : ns.length ≤ 63) (U : UpdF st (stObj sc i ti x tx) news g) (h0 : 0 ≤ i) (hx0 : 0 ≤ x) (hx1 : x < 2147483647) (hk0 : 0 < k)
    (hd : dp + 1 < recursionLimit) (hu : un + 8 < cLine)
    (hret : ∀ r u i' x' ti' tx' h' tk', 0 ≤ r → r < k → 0 ≤ i' → 0 ≤ x' → x' < 2147483647 → Fr h₀ L h' m → News h₀ L h' (g (stObj sc i' ti' x' tx')) → Q (.int r u) { s with heap := h', toks := tk' }) :
    wpAny (model PR w) (ktrTop dp un gd cn cs L a ccd cl outer) (call (.ref 107) [.ref st, .int k tk]) Q E s := by
  have hret' : ∀ r u i' x' ti' tx' h' tk', 0 ≤ r → r < k → 0 ≤ i' → 0 ≤ x' → x' < 2147483647 → Kept [st] s.heap h' → h'.get? st = some (stObj sc i' ti' x' tx') → Q (.int r u) { s with heap := h', toks := tk' } := by
    intro r u i' x' ti' tx' h' tk' a1 a2 a3 a4 a5 a6 a7
    obtain ⟨F', N'⟩ := upd_after F N U a6 a7
    exact hret r u i' x' ti' tx' h' tk' a1 a2 a3 a4 a5 F' N'
  replace N : News h₀ L s.heap [(st, stObj sc i ti x tx)] := News.sub N (by simpa using UpdF.mem U)
  clear hret U
  refine wpAny_call ?_
  k_dflt ((refine' code_defR ?zzk1 ?zzk2 ?zzk3 ?zzk4 ?zzk5 ?zzkA ?zzkF ?zzkK ?zzk6 ?zzk7 ?zzk8 ?zzk9 ?zzkB ?_ ?zzc2 ?zzc3 ?zzc4 ?zzc5; (case zzkA => exact rfl); (case zzkF => exact rfl); (case zzkK => assumption); (case zzk1 => k_asm); (case zzk2 => k_asm); (case zzk3 => k_asm); (case zzk4 => k_asm); (case zzk5 => k_asm); (case zzk6 => k_is); (case zzk7 => k_is); (case zzk8 => ktr_room); (case zzk9 => exact BindsTo.of_eq rfl); (case zzc5 => decide); (case zzkB => exact locs rfl); (case zzc2 => exact rfl); (case zzc3 => exact rfl); (case zzc4 => exact rfl); k_whole; intro zg zL zh zG zlL zF zN zB zX zT; (try dsimp only); (try k_lift zB); (try k_fold)))
  clear N F
  k_steps
  all_goals (rename GSub _ _ _ => G9; rename Fr _ _ _ _ => F9; rename News _ _ _ _ => N9)
  · exact hret' _ _ _ _ _ _ _ _ (fm _ hk0).1 (fm _ hk0).2 (by omega) (fm _ (by decide)).1 (fm _ (by decide)).2 (Kept.of G9 F9) (N9 (st, _) (.head _)).1
  · exact hret' _ _ _ _ _ _ _ _ (fm _ hk0).1 (fm _ hk0).2 h0 (fm _ (by decide)).1 (fm _ (by decide)).2 (Kept.of G9 F9) (N9 (st, _) (.head _)).1
end Mine
end
section
open PySem PySem.W PyProof.Rows PyProof.Rows.LCg
namespace Mine
set_option linter.unusedVariables false


def OctJ (i : Nat) (ys : List Value) : Prop := ∃ rs, IntsAre ys rs ∧ rs.length = i ∧ ∀ r ∈ rs, 0 ≤ r ∧ r < 256
set_option maxRecDepth 100000 in
set_option maxHeartbeats 4000000 in
theorem oct_call {w : World} {mean : ExcName → Option Value} {mg mb : Str → Option Value} {dp un : Nat} {gd : Option (List Code)} {cn : Str} {cs : Scope} {a : Addr} {ccd : Value} {cl : List (Str × Addr)} {outer : List Env} {A₀ : Around} {base h₀ : Heap} {L : Addr}
    {m : Str → Option Value} {s : Shared} {Q E : Value → Shared → Prop} {st sc : Addr} {vs : List Value} {ns : List Int} {i x k : Int} {ti tx tk : Tok} {news : List (Addr × Obj)} {g : Obj → List (Addr × Obj)}
    (B : Below A₀ base outer h₀) (F : Fr h₀ L s.heap m) (X : (Mine.hd.heap_39 w.params).In h₀) (N : News h₀ L s.heap news) (T : Top VW LW mean mg mb h₀) (hk : cs.kind = .function)
    (hl : base.IsList sc vs.toArray) (hi : IntsAre vs ns) (hn : ns.length ≤ 63) (U : UpdF st (stObj sc i ti x tx) news g) (h0 : 0 ≤ i) (hx0 : 0 ≤ x) (hx1 : x < 2147483647) (hk0 : 0 ≤ k) (hk1 : k < 100)
    (hd : dp + 2 < recursionLimit) (hu : un + 16 < cLine)
    (hret : ∀ (b : Array UInt8) u i' x' ti' tx' h' tk', (b.size : Int) = k → 0 ≤ i' → 0 ≤ x' → x' < 2147483647 → Fr h₀ L h' m → News h₀ L h' (g (stObj sc i' ti' x' tx')) → Q (.bytes b u) { s with heap := h', toks := tk' }) :
    wpAny (model PR w) (ktrTop dp un gd cn cs L a ccd cl outer) (call (.ref 112) [.ref st, .int k tk]) Q E s := by
  have hret' : ∀ (b : Array UInt8) u i' x' ti' tx' h' tk', (b.size : Int) = k → 0 ≤ i' → 0 ≤ x' → x' < 2147483647 → Kept [st] s.heap h' → h'.get? st = some (stObj sc i' ti' x' tx') → Q (.bytes b u) { s with heap := h', toks := tk' } := by
    intro r u i' x' ti' tx' h' tk' a1 a3 a4 a5 a6 a7
    obtain ⟨F', N'⟩ := upd_after F N U a6 a7
    exact hret r u i' x' ti' tx' h' tk' a1 a3 a4 a5 F' N'
  replace N : News h₀ L s.heap [(st, stObj sc i ti x tx)] := News.sub N (by simpa using UpdF.mem U)
  clear hret U
  refine wpAny_call ?_
  k_dflt (first   | (refine' code_defR ?zzk1 ?zzk2 ?zzk3 ?zzk4 ?zzk5 ?zzkA ?zzkF ?zzkK ?zzk6 ?zzk7 ?zzk8 ?zzk9 ?zzkB ?_ ?zzc2 ?zzc3 ?zzc4 ?zzc5; (case zzkA => exact rfl); (case zzkF => exact rfl); (case zzkK => assumption); (case zzk1 => k_asm); (case zzk2 => k_asm); (case zzk3 => k_asm); (case zzk4 => k_asm); (case zzk5 => k_asm); (case zzk6 => k_is); (case zzk7 => k_is); (case zzk8 => ktr_room); (case zzk9 => exact BindsTo.of_eq rfl); (case zzc5 => decide); (case zzkB => exact locs rfl); (case zzc2 => exact rfl); (case zzc3 => exact rfl); (case zzc4 => exact rfl); k_whole; intro zg zL zh zG zlL zF zN zB zX zT; (try dsimp only); (try k_lift zB); (try k_fold))   | (refine' code_defCR ?zzk1 ?zzk2 ?zzk3 ?zzk4 ?zzk5 ?zzkA ?zzkF ?zzkK ?zzk6 ?zzk7 ?zzk8 ?zzk9 ?zzkB ?zzkD ?_ ?zzc2 ?zzc3 ?zzc4; (case zzkA => exact rfl); (case zzkF => exact rfl); (case zzkK => assumption); (case zzk1 => k_asm); (case zzk2 => k_asm); (case zzk3 => k_asm); (case zzk4 => k_asm); (case zzk5 => k_asm); (case zzk6 => k_is); (case zzk7 => k_is); (case zzk8 => ktr_room); (case zzk9 => exact BindsTo.of_eq rfl); (case zzkB => exact rfl); (case zzkD => decide +kernel); (case zzc2 => exact rfl); (case zzc3 => exact rfl); (case zzc4 => exact rfl); k_whole; intro zg zL zh ztk zcells zG zlL zF zN zY zB zX zT zl1; (try k_lt zl1); k_cells zY; (try simp only [List.cons_append, List.nil_append] at zN); (try dsimp only); (try k_lift zB); (try k_fold)))
  clear N F
  repeat' (first | ((fail_if_success (with_reducible show CompSrc ..)); first | ((with_reducible show wpAny _ _ (call (Value.ref 107) _) _ _ _); k_dflt (refine' next_call ?zzB ?zzF ?zzX ?zzN ?zzT ?zzhk ?zzhl ?zzhi ?zzhn ?zzU ?zzh0 ?zzhx0 ?zzhx1 ?zzhk0 ?zzhd ?zzhu ?_; (case zzB => k_asm); (case zzF => k_asm); (case zzX => k_asm); (case zzN => k_asm); (case zzT => k_asm); (case zzhk => exact rfl); (case zzU => k_updF); (case zzhl => k_asm); (case zzhi => k_asm); (case zzhn => k_asm); (case zzh0 => omega); (case zzhx0 => omega); (case zzhx1 => omega); (case zzhk0 => omega); (case zzhd => ktr_room); (case zzhu => ktr_units)); (try clear zb3); (try clear zb4); (try clear zb5); intro zr zu zi zx zti ztx zh ztk zb1 zb2 zb3 zb4 zb5 zF zN; (try dsimp only at zN); (try k_sweep)) | (k_unfold; (try dsimp only)) | walk1 | dsimp only) | fail "no step")
  refine' compSrc_draws (st := st) (sc := sc) OctJ ?hh ?F ?N ?U ?hr ?hk0 ?hk1 ?b1 ?b2 ?b3 ?h0 ?step ?fin
  case hh => exact rfl
  case F => k_asm
  case N => k_asm
  case U => k_updF
  case hr => k_asm
  case hk0 => omega
  case hk1 => omega
  case b1 => assumption
  case b2 => assumption
  case b3 => assumption
  case h0 => exact ⟨[], .nil, rfl, fun _ h => nomatch h⟩
  case step =>
    intro g i ys i2 ti2 x2 tx2 hlt hJ a1 a2 a3 v I oI C oC D m2 h tk E' hP hC hm F' N' o3 ne
    obtain ⟨rs, hrs, hrl, hrb⟩ := hJ
    clear hP hm
    have o3' := o3
    simp only [Off3, and_true] at o3
    repeat' (first | ((fail_if_success (with_reducible show CompEnd ..)); first | ((with_reducible show wpAny _ _ (call (Value.ref 107) _) _ _ _); k_dflt (refine' next_call ?zzB ?zzF ?zzX ?zzN ?zzT ?zzhk ?zzhl ?zzhi ?zzhn ?zzU ?zzh0 ?zzhx0 ?zzhx1 ?zzhk0 ?zzhd ?zzhu ?_; (case zzB => k_asm); (case zzF => k_asm); (case zzX => k_asm); (case zzN => k_asm); (case zzT => k_asm); (case zzhk => exact rfl); (case zzU => k_updF); (case zzhl => k_asm); (case zzhi => k_asm); (case zzhn => k_asm); (case zzh0 => omega); (case zzhx0 => omega); (case zzhx1 => omega); (case zzhk0 => omega); (case zzhd => ktr_room); (case zzhu => ktr_units)); (try clear zb3); (try clear zb4); (try clear zb5); intro zr zu zi zx zti ztx zh ztk zb1 zb2 zb3 zb4 zb5 zF zN; (try dsimp only at zN); (try k_sweep)) | (k_unfold; (try dsimp only)) | walk1 | dsimp only) | fail "no step")
    rename News _ _ _ _ => N9
    refine CompEnd.intro (by assumption) N9 _ (fun _ hp => hp) o3' trivial ⟨⟨rs ++ [_], IntsAre.append hrs (.cons _ _ .nil), by simp [hrl], ?_⟩, _, _, _, _, rfl, by assumption, by assumption, by assumption⟩
    intro r hr
    rcases List.mem_append.mp hr with hr | hr
    · exact hrb r hr
    · rw [List.mem_singleton.mp hr]; constructor <;> assumption
  case fin =>
    intro g ys i2 ti2 x2 tx2 hJ a1 a2 a3
    obtain ⟨rs, hrs, hrl, hrb⟩ := hJ
    intro D h tk F' N' o1
    try dsimp only
    repeat' (first | ((fail_if_success (with_reducible show wpAny _ _ (call (Value.type _) _) _ _ _)); first | ((with_reducible show wpAny _ _ (call (Value.ref 107) _) _ _ _); k_dflt (refine' next_call ?zzB ?zzF ?zzX ?zzN ?zzT ?zzhk ?zzhl ?zzhi ?zzhn ?zzU ?zzh0 ?zzhx0 ?zzhx1 ?zzhk0 ?zzhd ?zzhu ?_; (case zzB => k_asm); (case zzF => k_asm); (case zzX => k_asm); (case zzN => k_asm); (case zzT => k_asm); (case zzhk => exact rfl); (case zzU => k_updF); (case zzhl => k_asm); (case zzhi => k_asm); (case zzhn => k_asm); (case zzh0 => omega); (case zzhx0 => omega); (case zzhx1 => omega); (case zzhk0 => omega); (case zzhd => ktr_room); (case zzhu => ktr_units)); (try clear zb3); (try clear zb4); (try clear zb5); intro zr zu zi zx zti ztx zh ztk zb1 zb2 zb3 zb4 zb5 zF zN; (try dsimp only at zN); (try k_sweep)) | (k_unfold; (try dsimp only)) | walk1 | dsimp only) | fail "no step")
    refine bytes_K (ns := rs) F' N' (N'.isList (.head _)) hrs hrb ?_ rfl ?_
    · rw [hrs.length, sizeLine_eq]; omega
    intro h' t k F9 N9 _
    rename GSub _ _ _ => G9
    exact hret' _ _ _ _ _ _ _ _ (by simp; omega) a1 a2 a3 (Kept.of G9 F9) (N9 (st, _) (.tail _ (.tail _ (.head _)))).1
end Mine
end
section
open PySem PySem.W PyProof.Rows
namespace Mine
set_option linter.unusedVariables false
/-- a text by its signs -/
def sOf (l : List Nat) : Str := ⟨l.toArray⟩
theorem sOf_cps (l : List Nat) : (sOf l).cps = l.toArray := rfl
theorem sOf_len (l : List Nat) : (sOf l).length = l.length := by simp [sOf, Str.length]
theorem eq_sOf (x : Str) : x = sOf x.cps.toList := by cases x; simp [sOf]
theorem sOf_inj {a b : List Nat} (h : sOf a = sOf b) : a = b := by
  have := congrArg (fun x => x.cps.toList) h
  simpa [sOf] using this
theorem sOf_append (a b : List Nat) : sOf a ++ sOf b = sOf (a ++ b) := by
  show (⟨_⟩ : Str) = _
  simp [sOf]
def joinL {α : Type} (sep : List α) : List (List α) → List α
  | [] => []
  | [x] => x
  | x :: y :: r => x ++ sep ++ joinL sep (y :: r)
theorem join_sOf (sep : List Nat) : ∀ ls : List (List Nat), Txt.join (sOf sep) (ls.map sOf) = sOf (joinL sep ls) := by
  intro ls
  show Builtin.Str.glued _ _ = _
  rw [StrLaws.glued_eq_join]
  induction ls with
  | nil => rfl
  | cons x r ih =>
    cases r with
    | nil => rfl
    | cons y r =>
      show sOf x ++ sOf sep ++ Str.join (sOf sep) (sOf y :: r.map sOf) = _
      have ih' : Str.join (sOf sep) (sOf y :: r.map sOf) = sOf (joinL sep (y :: r)) := ih
      rw [ih', sOf_append, sOf_append]
      rfl
theorem join_eq (sep : Str) (ls : List Str) : Txt.join sep ls = sOf (joinL sep.cps.toList (ls.map fun x => x.cps.toList)) := by
  have h := join_sOf sep.cps.toList (ls.map fun x => x.cps.toList)
  rw [← h, ← eq_sOf]
  congr 1
  rw [List.map_map]
  conv => lhs; rw [← List.map_id ls]
  apply List.map_congr_left
  intro x _
  exact eq_sOf x
theorem joinL_nil_len {α : Type} : ∀ ls : List (List α), joinL [] ls = ls.flatten
  | [] => rfl
  | [x] => by simp [joinL]
  | x :: y :: r => by rw [joinL, joinL_nil_len (y :: r)]; simp
theorem foldl_app (n : Nat) (x : Array Nat) (acc : Array Nat) : ((List.replicate n x).foldl (· ++ ·) acc).toList = acc.toList ++ (List.replicate n x.toList).flatten := by
  induction n generalizing acc with
  | zero => simp
  | succ n ih => rw [List.replicate_succ, List.foldl_cons, ih]; simp [List.replicate_succ]
theorem mul_sOf (x : List Nat) {n : Int} (h0 : 0 ≤ n) : Txt.mul (sOf x) n = sOf (List.replicate n.toNat x).flatten := by
  unfold Txt.mul
  by_cases h1 : n < 1
  · have : n = 0 := by omega
    subst this; rfl
  · rw [if_neg h1]
    by_cases h2 : (n == 1 || (sOf x).length == 0) = true
    · rw [if_pos h2]
      rcases Bool.or_eq_true_iff.mp h2 with h3 | h3
      · have : n = 1 := by simpa using h3
        subst this; simp
      · have : x = [] := by simpa [sOf_len] using h3
        subst this; simp
    · rw [if_neg h2]
      have := foldl_app n.toNat (sOf x).cps #[]
      rw [eq_sOf (Str.mk _)]
      congr 1
/-- the signs of the law's labels, swapped ones too -/
def okCp (c : Nat) : Bool := c == 97 || c == 98 || c == 65 || c == 66 || c == 48 || c == 57 || c == 45 || c == 122 || c == 90 || c == 109 || c == 77
def okL (l : List Nat) : Bool := l.all okCp
theorem okL_append (a b : List Nat) : okL (a ++ b) = (okL a && okL b) := by simp [okL]
theorem okL_flatten : ∀ (ls : List (List Nat)), (∀ l ∈ ls, okL l = true) → okL ls.flatten = true
  | [], _ => rfl
  | l :: r, h => by rw [List.flatten_cons, okL_append, h l (.head _), okL_flatten r fun x hx => h x (.tail _ hx)]; rfl
theorem ofString_m : Str.ofString "m" = sOf [109] := by decide +kernel
theorem ofString_empty : Str.ofString "" = sOf [] := by decide +kernel
theorem ofString_dot : Str.ofString "." = sOf [46] := by decide +kernel
/-- a label of the law: one to fifty-four signs -/
def Label (l : Str) : Prop := okL l.cps.toList = true ∧ 1 ≤ l.cps.size ∧ l.cps.size ≤ 54
theorem strValues_snoc (l : List (Str × Tok)) (x : Str) (t : Tok) : strValues (l ++ [(x, t)]) = strValues l ++ [.str x t] := by simp [strValues]
end Mine
end
section
open PySem PySem.W PyProof.Rows PyProof.Rows.LCg
namespace Mine
def LabJ (i : Nat) (ys : List Value) : Prop := ∃ l : List (Str × Tok), ys = strValues l ∧ l.length = i ∧ ∀ p ∈ l, p.1.cps.size = 1 ∧ okL p.1.cps.toList = true
theorem menu_le : ∀ n : Nat, 0 ≤ ([0, 0, 0, 4, 50] : List Int).getD n 0 ∧ ([0, 0, 0, 4, 50] : List Int).getD n 0 ≤ 50
  | 0 => by decide
  | 1 => by decide
  | 2 => by decide
  | 3 => by decide
  | 4 => by decide
  | n + 5 => by simp
theorem mul_m {prog : Program} {w : World} {A : Around} {E Q : Value → Shared → Prop} {s : Shared} {n : Nat} {t u : Tok} (h : ∀ (j : Nat) t' k, j ≤ 50 → Q (.str (sOf (List.replicate j 109)) t') { s with toks := k }) :
    wpAny (model prog w) A (binaryOp .Mult (.str (Str.ofString "m") t) (.int (([0, 0, 0, 4, 50] : List Int).getD n 0) u)) Q E s := by
  have hkk := menu_le n
  generalize ([0, 0, 0, 4, 50] : List Int).getD n 0 = kk at hkk ⊢
  refine SB.mul (mulOk_of 1 50 (by decide +kernel) (by omega) (by omega) (by decide) (by decide)) fun t8 k8 => ?_
  rw [ofString_m, mul_sOf _ hkk.1]
  have e : (List.replicate kk.toNat [109]).flatten = List.replicate kk.toNat 109 := by
    generalize kk.toNat = n
    induction n with
    | zero => rfl
    | succ n ih => rw [List.replicate_succ, List.flatten_cons, ih, List.replicate_succ]; rfl
  rw [e]
  exact h _ _ _ (by omega)
theorem item_ok {r : Int} (h0 : 0 ≤ r) (h1 : r < 8) : (Txt.item (Str.ofString "abAB09-z") r).cps.size = 1 ∧ okL (Txt.item (Str.ofString "abAB09-z") r).cps.toList = true := by
  obtain ⟨n, rfl⟩ := Int.eq_ofNat_of_zero_le h0
  exact (by decide +kernel : ∀ n : Nat, n < 8 → (Txt.item (Str.ofString "abAB09-z") ((n : Nat) : Int)).cps.size = 1 ∧ okL (Txt.item (Str.ofString "abAB09-z") ((n : Nat) : Int)).cps.toList = true) n (Int.ofNat_lt.mp h1)
set_option linter.unusedVariables false


set_option maxRecDepth 100000 in
set_option maxHeartbeats 4000000 in
theorem label_call {w : World} {mean : ExcName → Option Value} {mg mb : Str → Option Value} {dp un : Nat} {gd : Option (List Code)} {cn : Str} {cs : Scope} {a : Addr} {ccd : Value} {cl : List (Str × Addr)} {outer : List Env} {A₀ : Around} {base h₀ : Heap} {L : Addr}
    {m : Str → Option Value} {s : Shared} {Q E : Value → Shared → Prop} {st sc : Addr} {vs : List Value} {ns : List Int} {i x : Int} {ti tx : Tok} {news : List (Addr × Obj)} {g : Obj → List (Addr × Obj)}
    (B : Below A₀ base outer h₀) (F : Fr h₀ L s.heap m) (X : (Mine.hd.heap_39 w.params).In h₀) (N : News h₀ L s.heap news) (T : Top VW LW mean mg mb h₀) (hk : cs.kind = .function)
    (hl : base.IsList sc vs.toArray) (hi : IntsAre vs ns) (hn : ns.length ≤ 63) (U : UpdF st (stObj sc i ti x tx) news g) (h0 : 0 ≤ i) (hx0 : 0 ≤ x) (hx1 : x < 2147483647)
    (hd : dp + 2 < recursionLimit) (hu : un + 16 < cLine)
    (hret : ∀ (l : Str) u i' x' ti' tx' h' tk', Label l → 0 ≤ i' → 0 ≤ x' → x' < 2147483647 → Fr h₀ L h' m → News h₀ L h' (g (stObj sc i' ti' x' tx')) → Q (.str l u) { s with heap := h', toks := tk' }) :
    wpAny (model PR w) (ktrTop dp un gd cn cs L a ccd cl outer) (call (.ref 117) [.ref st]) Q E s := by
  have hret' : ∀ (l : Str) u i' x' ti' tx' h' tk', Label l → 0 ≤ i' → 0 ≤ x' → x' < 2147483647 → Kept [st] s.heap h' → h'.get? st = some (stObj sc i' ti' x' tx') → Q (.str l u) { s with heap := h', toks := tk' } := by
    intro r u i' x' ti' tx' h' tk' a1 a3 a4 a5 a6 a7
    obtain ⟨F', N'⟩ := upd_after F N U a6 a7
    exact hret r u i' x' ti' tx' h' tk' a1 a3 a4 a5 F' N'
  replace N : News h₀ L s.heap [(st, stObj sc i ti x tx)] := News.sub N (by simpa using UpdF.mem U)
  clear hret U
  refine wpAny_call ?_
  k_dflt (first   | (refine' code_defR ?zzk1 ?zzk2 ?zzk3 ?zzk4 ?zzk5 ?zzkA ?zzkF ?zzkK ?zzk6 ?zzk7 ?zzk8 ?zzk9 ?zzkB ?_ ?zzc2 ?zzc3 ?zzc4 ?zzc5; (case zzkA => exact rfl); (case zzkF => exact rfl); (case zzkK => assumption); (case zzk1 => k_asm); (case zzk2 => k_asm); (case zzk3 => k_asm); (case zzk4 => k_asm); (case zzk5 => k_asm); (case zzk6 => k_is); (case zzk7 => k_is); (case zzk8 => ktr_room); (case zzk9 => exact BindsTo.of_eq rfl); (case zzc5 => decide); (case zzkB => exact locs rfl); (case zzc2 => exact rfl); (case zzc3 => exact rfl); (case zzc4 => exact rfl); k_whole; intro zg zL zh zG zlL zF zN zB zX zT; (try dsimp only); (try k_lift zB); (try k_fold))   | (refine' code_defCR ?zzk1 ?zzk2 ?zzk3 ?zzk4 ?zzk5 ?zzkA ?zzkF ?zzkK ?zzk6 ?zzk7 ?zzk8 ?zzk9 ?zzkB ?zzkD ?_ ?zzc2 ?zzc3 ?zzc4; (case zzkA => exact rfl); (case zzkF => exact rfl); (case zzkK => assumption); (case zzk1 => k_asm); (case zzk2 => k_asm); (case zzk3 => k_asm); (case zzk4 => k_asm); (case zzk5 => k_asm); (case zzk6 => k_is); (case zzk7 => k_is); (case zzk8 => ktr_room); (case zzk9 => exact BindsTo.of_eq rfl); (case zzkB => exact rfl); (case zzkD => decide +kernel); (case zzc2 => exact rfl); (case zzc3 => exact rfl); (case zzc4 => exact rfl); k_whole; intro zg zL zh ztk zcells zG zlL zF zN zY zB zX zT zl1; (try k_lt zl1); k_cells zY; (try simp only [List.cons_append, List.nil_append] at zN); (try dsimp only); (try k_lift zB); (try k_fold)))
  clear N F
  repeat' (first | ((fail_if_success (with_reducible show CompSrc ..)); first | ((with_reducible show wpAny _ _ (call (Value.ref 107) _) _ _ _); k_dflt (refine' next_call ?zzB ?zzF ?zzX ?zzN ?zzT ?zzhk ?zzhl ?zzhi ?zzhn ?zzU ?zzh0 ?zzhx0 ?zzhx1 ?zzhk0 ?zzhd ?zzhu ?_; (case zzB => k_asm); (case zzF => k_asm); (case zzX => k_asm); (case zzN => k_asm); (case zzT => k_asm); (case zzhk => exact rfl); (case zzU => k_updF); (case zzhl => k_asm); (case zzhi => k_asm); (case zzhn => k_asm); (case zzh0 => omega); (case zzhx0 => omega); (case zzhx1 => omega); (case zzhk0 => omega); (case zzhd => ktr_room); (case zzhu => ktr_units)); (try clear zb3); (try clear zb4); (try clear zb5); intro zr zu zi zx zti ztx zh ztk zb1 zb2 zb3 zb4 zb5 zF zN; (try dsimp only at zN); (try k_sweep)) | (k_unfold; (try dsimp only)) | walk1 | dsimp only) | fail "no step")
  refine' compSrc_draws (st := st) (sc := sc) LabJ ?hh ?F ?N ?U ?hr ?hk0 ?hk1 ?b1 ?b2 ?b3 ?h0 ?step ?fin
  case hh => exact rfl
  case F => k_asm
  case N => k_asm
  case U => k_updF
  case hr => k_asm
  case hk0 => omega
  case hk1 => omega
  case b1 => assumption
  case b2 => assumption
  case b3 => assumption
  case h0 => exact ⟨[], rfl, rfl, fun _ h => nomatch h⟩
  case step =>
    intro g i ys i2 ti2 x2 tx2 hlt hJ a1 a2 a3 v I oI C oC D m2 h tk E' hP hC hm F' N' o3 ne
    obtain ⟨l, hys, hll, hlb⟩ := hJ
    clear hP hm
    have o3' := o3
    simp only [Off3, and_true] at o3
    repeat' (first | ((fail_if_success (with_reducible show CompEnd ..)); first | ((with_reducible show wpAny _ _ (call (Value.ref 107) _) _ _ _); k_dflt (refine' next_call ?zzB ?zzF ?zzX ?zzN ?zzT ?zzhk ?zzhl ?zzhi ?zzhn ?zzU ?zzh0 ?zzhx0 ?zzhx1 ?zzhk0 ?zzhd ?zzhu ?_; (case zzB => k_asm); (case zzF => k_asm); (case zzX => k_asm); (case zzN => k_asm); (case zzT => k_asm); (case zzhk => exact rfl); (case zzU => k_updF); (case zzhl => k_asm); (case zzhi => k_asm); (case zzhn => k_asm); (case zzh0 => omega); (case zzhx0 => omega); (case zzhx1 => omega); (case zzhk0 => omega); (case zzhd => ktr_room); (case zzhu => ktr_units)); (try clear zb3); (try clear zb4); (try clear zb5); intro zr zu zi zx zti ztx zh ztk zb1 zb2 zb3 zb4 zb5 zF zN; (try dsimp only at zN); (try k_sweep)) | (k_unfold; (try dsimp only)) | walk1 | dsimp only) | fail "no step")
    try k_unfold
    rename News _ _ _ _ => N9
    refine CompEnd.intro (by assumption) N9 _ (fun _ hp => hp) o3' trivial ⟨⟨l ++ [(_, _)], by rw [strValues_snoc, hys], by simp [hll], ?_⟩, _, _, _, _, rfl, by assumption, by assumption, by assumption⟩
    intro r hr
    rcases List.mem_append.mp hr with hr | hr
    · exact hlb r hr
    · rw [List.mem_singleton.mp hr]; exact item_ok (by assumption) (by assumption)
  case fin =>
    intro g ys i2 ti2 x2 tx2 hJ a1 a2 a3
    obtain ⟨l, hys, hll, hlb⟩ := hJ
    have hl4 : l.length ≤ 4 := by omega
    have hl1 : 1 ≤ l.length := by omega
    clear hll
    intro D h tk F' N' o1
    simp only [Off1, and_true] at o1
    try dsimp only
    repeat' (first | ((fail_if_success (with_reducible show wpAny _ _ (call (Value.builtin _) _) _ _ _)); first | ((with_reducible show wpAny _ _ (call (Value.ref 107) _) _ _ _); k_dflt (refine' next_call ?zzB ?zzF ?zzX ?zzN ?zzT ?zzhk ?zzhl ?zzhi ?zzhn ?zzU ?zzh0 ?zzhx0 ?zzhx1 ?zzhk0 ?zzhd ?zzhu ?_; (case zzB => k_asm); (case zzF => k_asm); (case zzX => k_asm); (case zzN => k_asm); (case zzT => k_asm); (case zzhk => exact rfl); (case zzU => k_updF); (case zzhl => k_asm); (case zzhi => k_asm); (case zzhn => k_asm); (case zzh0 => omega); (case zzhx0 => omega); (case zzhx1 => omega); (case zzhk0 => omega); (case zzhd => ktr_room); (case zzhu => ktr_units)); (try clear zb3); (try clear zb4); (try clear zb5); intro zr zu zi zx zti ztx zh ztk zb1 zb2 zb3 zb4 zb5 zF zN; (try dsimp only at zN); (try k_sweep)) | (k_unfold; (try dsimp only)) | walk1 | dsimp only) | fail "no step")
    subst hys
    have hsum : ((l.map (·.1)).map (·.length)).sum = l.length := by
      clear hl1 hl4 h F' N'
      induction l with
      | nil => rfl
      | cons p r ih =>
        have h1 := (hlb p (.head _)).1
        have h2 := ih fun q hq => hlb q (.tail _ hq)
        simp only [List.map_cons, List.sum_cons, List.length_cons, h2]
        show p.1.cps.size + _ = _
        omega
    refine SC.join (N'.isList (.head _)) rfl (joinOk_of ?_) fun t9 k9 => ?_
    · rw [hsum]
      have : (Str.ofString "").length = 0 := by decide +kernel
      rw [this, Nat.mul_zero, Nat.add_zero]; exact Nat.le_trans hl4 (by decide)
    have hjl : (Txt.join (Str.ofString "") (l.map (·.1))).cps.size = l.length ∧ okL (Txt.join (Str.ofString "") (l.map (·.1))).cps.toList = true := by
      rw [join_eq]
      have e0 : (Str.ofString "").cps.toList = [] := by decide +kernel
      rw [e0, joinL_nil_len]
      refine ⟨?_, ?_⟩
      · rw [← hsum]
        simp only [sOf, List.size_toArray, List.length_flatten, List.map_map]
        rfl
      · show okL (List.toArray _).toList = true
        rw [List.toList_toArray]
        refine okL_flatten _ fun x hx => ?_
        simp only [List.mem_map] at hx
        obtain ⟨y, ⟨p, hp, rfl⟩, rfl⟩ := hx
        exact (hlb p hp).2
    generalize Txt.join (Str.ofString "") (l.map (·.1)) = J at hjl ⊢
    have hJ1 : 1 ≤ J.cps.size := by rw [hjl.1]; exact hl1
    have hJ4 : J.cps.size ≤ 4 := by rw [hjl.1]; exact hl4
    clear hsum hl1 hl4
    repeat' (first | ((fail_if_success (with_reducible show wpAny _ _ (binaryOp .Mult _ _) _ _ _)); first | ((with_reducible show wpAny _ _ (call (Value.ref 107) _) _ _ _); k_dflt (refine' next_call ?zzB ?zzF ?zzX ?zzN ?zzT ?zzhk ?zzhl ?zzhi ?zzhn ?zzU ?zzh0 ?zzhx0 ?zzhx1 ?zzhk0 ?zzhd ?zzhu ?_; (case zzB => k_asm); (case zzF => k_asm); (case zzX => k_asm); (case zzN => k_asm); (case zzT => k_asm); (case zzhk => exact rfl); (case zzU => k_updF); (case zzhl => k_asm); (case zzhi => k_asm); (case zzhn => k_asm); (case zzh0 => omega); (case zzhx0 => omega); (case zzhx1 => omega); (case zzhk0 => omega); (case zzhd => ktr_room); (case zzhu => ktr_units)); (try clear zb3); (try clear zb4); (try clear zb5); intro zr zu zi zx zti ztx zh ztk zb1 zb2 zb3 zb4 zb5 zF zN; (try dsimp only at zN); (try k_sweep)) | (k_unfold; (try dsimp only)) | walk1 | dsimp only) | fail "no step")
    refine mul_m fun j9 t8 k8 hj9 => ?_
    rw [eq_sOf J]
    rename GSub _ _ _ => G9
    rename Fr _ _ _ _ => F9
    rename News _ _ _ _ => N9
    refine SBL.add (hsz := by simp only [sOf_len, sizeLine_eq]; simp; exact Nat.le_trans (Nat.add_le_add hJ4 hj9) (by decide)) fun t7 k7 _ => ?_
    rw [sOf_append]
    refine hret' _ _ _ _ _ _ _ _ ⟨?_, ?_, ?_⟩ (by assumption) (by assumption) (by assumption) (Kept.of G9 F9) (N9 (st, _) (.tail _ (.tail _ (.tail _ (.head _))))).1
    · rw [sOf_cps, List.toList_toArray, okL_append, hjl.2]
      rw [Bool.true_and]; exact List.all_eq_true.mpr fun x hx => by rw [List.eq_of_mem_replicate hx]; rfl
    · simp [sOf_cps]; exact Nat.le_trans hJ1 (Nat.le_add_right _ _)
    · simp [sOf_cps]; exact Nat.add_le_add hJ4 hj9
end Mine
end
section
open PySem PySem.W PyProof.Rows PySem.Calls
set_option maxRecDepth 100000
namespace Mine
set_option linter.unusedVariables false
namespace FS
theorem kind_pack : builtinKind "_struct.pack" = none := by decide +kernel
theorem plain_pack : plainId "_struct.pack" = true := by decide +kernel
theorem entry_pack : entryFor table "_struct.pack" = some Builtin.«_struct.pack» := by first | exact entryFor_of_fast (by kernel_rfl) | exact entryFor_of_tree (by kernel_rfl)
theorem args_pack (a b : Value) : argsOk "_struct.pack" ⟨[a, b], []⟩ := by unfold argsOk; kernel_rfl
theorem kind_unpack : builtinKind "_struct.unpack" = none := by decide +kernel
theorem plain_unpack : plainId "_struct.unpack" = true := by decide +kernel
theorem entry_unpack : entryFor table "_struct.unpack" = some Builtin.«_struct.unpack» := by first | exact entryFor_of_fast (by kernel_rfl) | exact entryFor_of_tree (by kernel_rfl)
theorem args_unpack (a b : Value) : argsOk "_struct.unpack" ⟨[a, b], []⟩ := by unfold argsOk; kernel_rfl
def fmtB : Builtin.Struct.Format := { bigEndian := false, native := true, codes := [⟨'B', 1, 0, 1⟩], size := 1, items := 1 }
def fmtH : Builtin.Struct.Format := { bigEndian := true, native := false, codes := [⟨'H', 1, 0, 2⟩], size := 2, items := 1 }
theorem mod_B (t : Tok) : Builtin.Struct.moduleFormat (.str (Str.ofString "B") t) = pure fmtB := by kernel_rfl
theorem mod_H (t : Tok) : Builtin.Struct.moduleFormat (.str (Str.ofString ">H") t) = pure fmtH := by kernel_rfl
end FS
section
variable {prog : Program} {w : World} {A : Around} {E : Value → Shared → Prop} {s : Shared} {t u : Tok} {i : Int}
theorem packed_B {Q : Fin → Shared → Prop} (h0 : 0 ≤ i) (h1 : i ≤ 255) (h : ∀ t k, Q (.done (.ret (.bytes #[i.toNat.toUInt8] t))) { s with toks := k }) :
    wpAny (model prog w) A (Builtin.Struct.packed "_struct.pack" "pack" FS.fmtB [.int i u]) Q E s := by
  refine wpAny_bind (f := fun r => (do ret (← mkBytes r))) ?_
  unfold Builtin.Struct.packEach
  simp only [FS.fmtB, List.forIn_cons, List.forIn_nil]
  refine wpAny_bind ?_
  refine wpAny_bind ?_
  refine bm_if_false (by decide +kernel) ?_
  refine bm_if_false (by decide +kernel) ?_
  refine wpAny_bind ?_
  rw [show forIn (m := Sem) [:1] (Array.replicate 1 (0 : UInt8), [Value.int i u]) = forIn (m := Sem) [0] (Array.replicate 1 (0 : UInt8), [Value.int i u]) from by funext f; simp [Std.Legacy.Range.forIn_eq_forIn_range', List.range'_succ]]
  rw [List.forIn_cons]
  refine wpAny_bind ?_
  dsimp only
  refine wpAny_bind ?_
  refine bm_if_false (c := decide (i < (0 : Int)) || decide (i > (255 : Int))) (b := pure (Builtin.Struct.intBytes false 1 i)) ?_ ?_
  · simp; omega
  refine wpAny_pure (wpAny_bind (wpAny_pure (wpAny_pure ?_)))
  dsimp only
  rw [List.forIn_nil]
  refine wpAny_pure (wpAny_pure (wpAny_pure (wpAny_pure ?_)))
  have e : Builtin.Struct.intBytes false 1 i = #[i.toNat.toUInt8] := by
    show (#[((i % 2 ^ (8 * 1)).toNat / 256 ^ 0 % 256).toUInt8] : Array UInt8) = _
    have : (i % 2 ^ (8 * 1)).toNat / 256 ^ 0 % 256 = i.toNat := by
      simp only [Nat.pow_zero, Nat.div_one]
      have : (2 : Int) ^ (8 * 1) = 256 := by decide
      omega
    rw [this]
  rw [e]
  refine wpAny_bind (wpAny_mkBytes (b := #[i.toNat.toUInt8]) ?_ (by simp [sizeLine_eq]))
  exact wpAny_pure (h _ _)
theorem packed_H {Q : Fin → Shared → Prop} (h0 : 0 ≤ i) (h1 : i ≤ 65535) (h : ∀ t k, Q (.done (.ret (.bytes #[(i.toNat / 256).toUInt8, (i.toNat % 256).toUInt8] t))) { s with toks := k }) :
    wpAny (model prog w) A (Builtin.Struct.packed "_struct.pack" "pack" FS.fmtH [.int i u]) Q E s := by
  refine wpAny_bind (f := fun r => (do ret (← mkBytes r))) ?_
  unfold Builtin.Struct.packEach
  simp only [FS.fmtH, List.forIn_cons, List.forIn_nil]
  refine wpAny_bind ?_
  refine wpAny_bind ?_
  refine bm_if_false (by decide +kernel) ?_
  refine bm_if_false (by decide +kernel) ?_
  refine wpAny_bind ?_
  rw [show forIn (m := Sem) [:1] (Array.replicate 2 (0 : UInt8), [Value.int i u]) = forIn (m := Sem) [0] (Array.replicate 2 (0 : UInt8), [Value.int i u]) from by funext f; simp [Std.Legacy.Range.forIn_eq_forIn_range', List.range'_succ]]
  rw [List.forIn_cons]
  refine wpAny_bind ?_
  dsimp only
  refine wpAny_bind ?_
  refine bm_if_false (c := decide (i < (0 : Int)) || decide (i > (65535 : Int))) (b := pure (Builtin.Struct.intBytes true 2 i)) ?_ ?_
  · simp; omega
  refine wpAny_pure (wpAny_bind (wpAny_pure (wpAny_pure ?_)))
  dsimp only
  rw [List.forIn_nil]
  refine wpAny_pure (wpAny_pure (wpAny_pure (wpAny_pure ?_)))
  have e : Builtin.Struct.intBytes true 2 i = #[(i.toNat / 256).toUInt8, (i.toNat % 256).toUInt8] := by
    show (#[((i % 2 ^ (8 * 2)).toNat / 256 ^ 0 % 256).toUInt8, ((i % 2 ^ (8 * 2)).toNat / 256 ^ 1 % 256).toUInt8] : Array UInt8).reverse = _
    have e1 : (i % 2 ^ (8 * 2)).toNat / 256 ^ 0 % 256 = i.toNat % 256 := by
      simp only [Nat.pow_zero, Nat.div_one]
      have : (2 : Int) ^ (8 * 2) = 65536 := by decide
      omega
    have e2 : (i % 2 ^ (8 * 2)).toNat / 256 ^ 1 % 256 = i.toNat / 256 := by
      simp only [Nat.pow_one]
      have : (2 : Int) ^ (8 * 2) = 65536 := by decide
      omega
    rw [e1, e2]; simp
  rw [e]
  refine wpAny_bind (wpAny_mkBytes (b := #[(i.toNat / 256).toUInt8, (i.toNat % 256).toUInt8]) ?_ (by simp [sizeLine_eq]))
  exact wpAny_pure (h _ _)
theorem pack_B {Q : Value → Shared → Prop} (h0 : 0 ≤ i) (h1 : i ≤ 255) (h : ∀ t k, Q (.bytes #[i.toNat.toUInt8] t) { s with toks := k }) :
    wpAny (model prog w) A (call (.builtin "_struct.pack") [.str (Str.ofString "B") t, .int i u]) Q E s := by
  refine call_function_entry FS.kind_pack FS.plain_pack FS.entry_pack (FS.args_pack _ _) ?_
  refine wpAny_bind (wpAny_of_eq (a := ()) rfl ?_)
  refine wpAny_bind (wpAny_of_eq (FS.mod_B _) ?_)
  exact packed_B h0 h1 fun t k => ⟨_, rfl, h t k⟩
theorem pack_H {Q : Value → Shared → Prop} (h0 : 0 ≤ i) (h1 : i ≤ 65535) (h : ∀ t k, Q (.bytes #[(i.toNat / 256).toUInt8, (i.toNat % 256).toUInt8] t) { s with toks := k }) :
    wpAny (model prog w) A (call (.builtin "_struct.pack") [.str (Str.ofString ">H") t, .int i u]) Q E s := by
  refine call_function_entry FS.kind_pack FS.plain_pack FS.entry_pack (FS.args_pack _ _) ?_
  refine wpAny_bind (wpAny_of_eq (a := ()) rfl ?_)
  refine wpAny_bind (wpAny_of_eq (FS.mod_H _) ?_)
  exact packed_H h0 h1 fun t k => ⟨_, rfl, h t k⟩
end
end Mine
end
section
open PySem PySem.W PyProof.Rows PySem.Calls
set_option maxRecDepth 100000
namespace Mine
set_option linter.unusedVariables false
namespace FY
open PySem.W.FB
theorem slot_join : Slot "bytes" "join" "bytes.join" :=
  .of (owner := "bytes") (n := "join") (by rw [typeLookup_type, builtinLookup_eq_fast]; kernel_rfl) (by decide +kernel) (by decide +kernel) (by decide +kernel)
    (by first | exact .inl (by decide +kernel) | exact .inr (by decide +kernel)) (by rw [isSubtype_type]; kernel_rfl)
theorem type_join : typeOf (.builtin "bytes.join") = pure (.type "method_descriptor") := by show builtinType _ = _; rw [builtinType_eq_fast]; kernel_rfl
theorem entry_join : entryFor table "bytes.join" = some Builtin.«bytes.join» := entryFor_of_tree (by kernel_rfl)
theorem args_join_2 (a b : Value) : argsOk "bytes.join" ⟨[a, b], []⟩ := by
  unfold argsOk; rw [signature?_of (id := "bytes.join") (n := ['n', 'i', 'o', 'j']) (o := ['s', 'e', 't', 'y', 'b']) (by kernel_rfl) owner_bytes]; kernel_rfl
theorem slot_split : Slot "bytes" "split" "bytes.split" :=
  .of (owner := "bytes") (n := "split") (by rw [typeLookup_type, builtinLookup_eq_fast]; kernel_rfl) (by decide +kernel) (by decide +kernel) (by decide +kernel)
    (by first | exact .inl (by decide +kernel) | exact .inr (by decide +kernel)) (by rw [isSubtype_type]; kernel_rfl)
theorem type_split : typeOf (.builtin "bytes.split") = pure (.type "method_descriptor") := by show builtinType _ = _; rw [builtinType_eq_fast]; kernel_rfl
theorem entry_split : entryFor table "bytes.split" = some Builtin.«bytes.split» := entryFor_of_tree (by kernel_rfl)
theorem args_split_2 (a b : Value) : argsOk "bytes.split" ⟨[a, b], []⟩ := by
  unfold argsOk; rw [signature?_of (id := "bytes.split") (n := ['t', 'i', 'l', 'p', 's']) (o := ['s', 'e', 't', 'y', 'b']) (by kernel_rfl) owner_bytes]; kernel_rfl
theorem slot_upper : Slot "bytes" "upper" "bytes.upper" :=
  .of (owner := "bytes") (n := "upper") (by rw [typeLookup_type, builtinLookup_eq_fast]; kernel_rfl) (by decide +kernel) (by decide +kernel) (by decide +kernel)
    (by first | exact .inl (by decide +kernel) | exact .inr (by decide +kernel)) (by rw [isSubtype_type]; kernel_rfl)
theorem type_upper : typeOf (.builtin "bytes.upper") = pure (.type "method_descriptor") := by show builtinType _ = _; rw [builtinType_eq_fast]; kernel_rfl
theorem entry_upper : entryFor table "bytes.upper" = some Builtin.«bytes.upper» := entryFor_of_tree (by kernel_rfl)
theorem args_upper_1 (a : Value) : argsOk "bytes.upper" ⟨[a], []⟩ := by
  unfold argsOk; rw [signature?_of (id := "bytes.upper") (n := ['r', 'e', 'p', 'p', 'u']) (o := ['s', 'e', 't', 'y', 'b']) (by kernel_rfl) owner_bytes]; kernel_rfl
theorem args_decode_2 (a b : Value) : argsOk "bytes.decode" ⟨[a, b], []⟩ := by
  unfold argsOk; rw [signature?_of (id := "bytes.decode") (n := ['e', 'd', 'o', 'c', 'e', 'd']) (o := ['s', 'e', 't', 'y', 'b']) (by kernel_rfl) owner_bytes]; kernel_rfl
end FY
section
variable {prog : Program} {w : World} {A : Around} {E : Value → Shared → Prop} {s : Shared} {b : Array UInt8} {x : Str} {t u : Tok}
theorem getMethod_join {M : Model} {pl : Sem Bool} {Q : Value × List Value → Shared → Prop} (h : Q (.builtin "bytes.join", [.bytes b t]) s) : wpAny M A (getMethod (.bytes b t) "join" pl) Q E s := by
  with_reducible exact KBd.method_of (.bytes b t) (typeIs_bytes _ _ _) FY.slot_join FY.type_join KBd.noRef h
theorem getMethod_split {M : Model} {pl : Sem Bool} {Q : Value × List Value → Shared → Prop} (h : Q (.builtin "bytes.split", [.bytes b t]) s) : wpAny M A (getMethod (.bytes b t) "split" pl) Q E s := by
  with_reducible exact KBd.method_of (.bytes b t) (typeIs_bytes _ _ _) FY.slot_split FY.type_split KBd.noRef h
theorem getMethod_upper {M : Model} {pl : Sem Bool} {Q : Value × List Value → Shared → Prop} (h : Q (.builtin "bytes.upper", [.bytes b t]) s) : wpAny M A (getMethod (.bytes b t) "upper" pl) Q E s := by
  with_reducible exact KBd.method_of (.bytes b t) (typeIs_bytes _ _ _) FY.slot_upper FY.type_upper KBd.noRef h
theorem call_wp {T : String} {name : Str} {id : String} {B : Builtin} {self : Value} {rest : List Value} {Q : Value → Shared → Prop} (slot : Slot T name id) (hT : s.TypeIs self T)
    (entry : entryFor table id = some B) (args : argsOk id ⟨self :: rest, []⟩) (h : wpAny (model prog w) A.in1 (B ⟨self :: rest, []⟩) (fun fin s' => ∃ v, fin = .done (.ret v) ∧ Q v s') E s) :
    wpAny (model prog w) A (call (.builtin id) (self :: rest)) Q E s :=
  wpAny_call (codeAny_call_builtin slot.plain entry (slot.check _ _ _ _ _ _ _ _ hT args (wpAny_mono h (fun fin s' h' => by obtain ⟨v, rfl, hv⟩ := h'; exact hv) fun _ _ x => x)))
/-- bytes.upper -/
theorem call_upper {l : List UInt8} {Q : Value → Shared → Prop} (hb : l.length ≤ 16777216) (h : ∀ t' k, Q (.bytes (l.map Builtin.Bytes.toUpper).toArray t') { s with toks := k }) :
    wpAny (model prog w) A (call (.builtin "bytes.upper") [.bytes l.toArray t]) Q E s := by
  refine call_wp FY.slot_upper (typeIs_bytes _ _ _) FY.entry_upper (FY.args_upper_1 _) ?_
  refine wpAny_bind (wpAny_of_eq (a := Value.bytes l.toArray t) rfl ?_)
  refine wpAny_bind (wpAny_of_eq (a := l.toArray) rfl ?_)
  refine wpAny_bind (wpAny_mkBytes (b := (l.map Builtin.Bytes.toUpper).toArray) ?_ (by simp [sizeLine_eq]; exact hb))
  exact wpAny_pure ⟨_, rfl, h _ _⟩

def bv (ls : List (List UInt8 × Tok)) : List Value := ls.map fun p => .bytes p.1.toArray p.2
theorem take_eq {id : String} {b : Array UInt8} {t : Tok} : Builtin.Bytes.takeBufferQuiet? id (.bytes b t) 0 = pure (some (b, none)) := by
  have e : Builtin.Bytes.takeBuffer? id (.bytes b t) 0 = pure (some (b, none)) := by
    unfold Builtin.Bytes.takeBuffer?
    rw [KBy.special_eq KBy.look_buffer, KBy.own_buffer]
    show (do let r ← Builtin.Bytes.buffer? id (.bytes b t) false; return r.map (·, none)) = _
    rw [KBy.buffer_eq]
    rfl
  unfold Builtin.Bytes.takeBufferQuiet?
  rw [e]
  rfl
theorem joinLetGo_bytes {M : Model} : ∀ (taken : List (Value × Option Value)) (keep : List Value) {Q : Unit → Shared → Prop}, (∀ p ∈ taken, p.2 = none) → Q () s → wpAny M A (Builtin.Bytes.joinLetGo taken keep) Q E s
  | [], _, _, _, h => wpAny_pure h
  | (x, none) :: rest, keep, Q, hn, h => by
    unfold Builtin.Bytes.joinLetGo
    dsimp only
    refine wpAny_bind (wpAny_letGo ?_)
    exact joinLetGo_bytes rest keep (fun p hp => hn p (.tail _ hp)) h
  | (x, some w) :: rest, keep, Q, hn, h => by
    have := hn _ (.head _)
    cases this
theorem jm {β : Type} (l : List Value) (hl : l.length ≠ 1) (f : Value → β) (g : Array Value → β) : Builtin.Bytes.joinM.match_1 (fun _ => β) ⟨l⟩ f g = g ⟨l⟩ := by
  unfold Builtin.Bytes.joinM.match_1
  have : ¬ (Array.mk l).size = 1 := hl
  simp only [this, dite_false]
theorem jm1 {β : Type} (x : Value) (f : Value → β) (g : Array Value → β) : Builtin.Bytes.joinM.match_1 (fun _ => β) ⟨[x]⟩ f g = f x := rfl
theorem joinL_length {α : Type} (sep : List α) : ∀ ls : List (List α), (joinL sep ls).length ≤ (ls.map List.length).sum + ls.length * sep.length
  | [] => Nat.zero_le _
  | [x] => by simp [joinL]
  | x :: y :: r => by
    have := joinL_length sep (y :: r)
    simp only [joinL, List.length_append, List.map_cons, List.sum_cons, List.length_cons, Nat.succ_mul] at this ⊢
    omega
theorem joined_go (sep : Array UInt8) : ∀ (ls : List (List UInt8)) (n : Nat) (out : Array UInt8), 0 < n →
    ((ls.map List.toArray).zipIdx n).foldl (fun out (p, i) => (if i > 0 then out ++ sep else out) ++ p) out = out ++ (ls.map fun l => sep ++ l.toArray).foldl (· ++ ·) #[]
  | [], n, out, _ => by simp
  | l :: r, n, out, hn => by
    rw [List.map_cons, List.zipIdx_cons, List.foldl_cons, joined_go sep r (n + 1) _ (by omega)]
    dsimp only
    rw [if_pos (by omega)]
    have key : ∀ (xs : List (Array UInt8)) (a : Array UInt8), xs.foldl (· ++ ·) a = a ++ xs.foldl (· ++ ·) #[] := by
      intro xs
      induction xs with
      | nil => intro a; simp
      | cons x xs ih => intro a; rw [List.foldl_cons, List.foldl_cons, ih, ih (#[] ++ x)]; simp [Array.append_assoc]
    rw [List.map_cons, List.foldl_cons, key _ (#[] ++ _)]
    simp [Array.append_assoc]
theorem joinL_cons' {α : Type} (sep : List α) (x : List α) : ∀ ls : List (List α), joinL sep (x :: ls) = x ++ (ls.map fun l => sep ++ l).flatten
  | [] => by simp [joinL]
  | y :: r => by rw [joinL, joinL_cons' sep y r]; simp
theorem joined_eq (sep : List UInt8) (ls : List (List UInt8)) : Builtin.Bytes.joined sep.toArray (ls.map List.toArray) = (joinL sep ls).toArray := by
  unfold Builtin.Bytes.joined
  cases ls with
  | nil => rfl
  | cons x r =>
    rw [List.map_cons, List.zipIdx_cons, List.foldl_cons, joined_go _ r (0 + 1) _ (by omega), joinL_cons']
    have key : ∀ (xs : List (List UInt8)), (xs.map fun l => sep.toArray ++ l.toArray).foldl (· ++ ·) #[] = ((xs.map fun l => sep ++ l).flatten).toArray := by
      intro xs
      induction xs with
      | nil => rfl
      | cons y r ih =>
        have k2 : ∀ (xs : List (Array UInt8)) (a : Array UInt8), xs.foldl (· ++ ·) a = a ++ xs.foldl (· ++ ·) #[] := by
          intro xs
          induction xs with
          | nil => intro a; simp
          | cons x xs ih => intro a; rw [List.foldl_cons, List.foldl_cons, ih, ih (#[] ++ x)]; simp [Array.append_assoc]
        rw [List.map_cons, List.foldl_cons, k2, ih]
        simp
    rw [key]
    simp
theorem call_join {sep : List UInt8} {ls : List (List UInt8 × Tok)} {a : Addr} {Q : Value → Shared → Prop} (hl : s.heap.IsList a (bv ls).toArray) (hsz : (ls.map fun p => p.1.length).sum + ls.length * sep.length ≤ 16777216)
    (h : ∀ t' k, Q (.bytes (joinL sep (ls.map (·.1))).toArray t') { s with toks := k }) :
    wpAny (model prog w) A (call (.builtin "bytes.join") [.bytes sep.toArray t, .ref a]) Q E s := by
  refine call_wp FY.slot_join (typeIs_bytes _ _ _) FY.entry_join (FY.args_join_2 _ _) ?_
  have hT : s.TypeIs (.ref a) "list" := hl.typeIs
  obtain ⟨ol, hol, hoc, nl, hod⟩ := id hl
  unfold Builtin.«bytes.join» Builtin.Bytes.joinM
  refine wpAny_bind (wpAny_of_eq (a := (Value.bytes sep.toArray t, Value.ref a)) rfl ?_)
  dsimp only
  refine wpAny_bind ?_
  show wpAny _ _ (Builtin.Bytes.joinItems (.ref a)) _ _ _
  unfold Builtin.Bytes.joinItems
  refine wpAny_bind (wpAny_typeOf hT ?_)
  refine bm_if_true (by decide) ?_
  refine wpAny_pure ?_
  refine wpAny_bind (wpAny_seqItems hol hod ?_)
  dsimp only
  refine bm_if_true (by decide) ?_
  by_cases hone : ls.length = 1
  · obtain ⟨p, rfl⟩ : ∃ p, ls = [p] := by
      match ls, hone with
      | [p], _ => exact ⟨p, rfl⟩
    rw [show (bv [p]).toArray = ⟨[Value.bytes p.1.toArray p.2]⟩ from rfl, jm1]
    refine wpAny_bind (wpAny_typeOf (typeIs_bytes _ _ _) ?_)
    refine bm_if_true (by decide) ?_
    refine wpAny_bind (wpAny_rule (wpAny_pure ⟨_, rfl, ?_⟩))
    exact h p.2 s.toks
  · rw [jm _ (by simpa [bv] using hone)]
    rw [show forIn (m := Sem) [:(Array.mk (bv ls)).size] ((#[], []) : Array (Array UInt8) × List (Value × Option Value)) = forIn (m := Sem) (List.range ls.length) ((#[], []) : Array (Array UInt8) × List (Value × Option Value)) from by
      funext f; rw [Std.Legacy.Range.forIn_eq_forIn_range']; simp [bv, List.range_eq_range', Std.Legacy.Range.size]]
    refine wpAny_bind (wpAny_forIn_list _ (fun rest b s' => ∃ k, k + rest.length = ls.length ∧ rest = (List.range ls.length).drop k ∧ s' = s ∧ b.1 = ((ls.take k).map fun p => p.1.toArray).toArray ∧ b.2 = (ls.take k).map fun p => (Value.bytes p.1.toArray p.2, none)) _ ?_ ?_ _ _ ⟨0, by simp, by simp, rfl, by simp, by simp⟩)
    · rintro i rest ⟨parts, taken⟩ s' ⟨k, hk, hrest, hs, hp, ht⟩
      subst s'
      dsimp only at hp ht ⊢
      have hik : i = k := by
        have h1 := congrArg List.head? hrest
        simp only [List.head?_cons, List.head?_drop] at h1
        rw [List.getElem?_range (by simp at hk; omega)] at h1
        exact Option.some.inj h1
      subst hik
      have hlt : i < ls.length := by simp at hk; omega
      refine wpAny_bind (wpAny_seqItems hol hod ?_)
      dsimp only
      have hnow : (Array.mk (bv ls)).getD i Value.none = Value.bytes (ls[i]).1.toArray (ls[i]).2 := by
        simp [bv, Array.getD, hlt]
      have hany : (Builtin.Bytes.Kind.bytes == Builtin.Bytes.Kind.bytearray || taken.any fun x => x.1.onHeap) = false := by
        rw [ht]
        simp only [Bool.or_eq_false_iff, List.any_eq_false, List.mem_map]
        refine ⟨by decide, ?_⟩
        rintro x ⟨p, _, rfl⟩
        simp [Value.onHeap]
      refine bm_if_false hany ?_
      rw [hnow]
      refine wpAny_bind (wpAny_holding (wpAny_of_eq take_eq ?_))
      dsimp only
      refine wpAny_bind (wpAny_seqItems hol hod ?_)
      dsimp only
      refine bm_if_false (by simp) ?_
      refine wpAny_pure ?_
      dsimp only
      refine ⟨i + 1, by simp at hk ⊢; omega, ?_, rfl, ?_, ?_⟩
      · have := congrArg List.tail hrest
        simpa [List.tail_drop] using this
      · rw [hp, List.take_succ_eq_append_getElem hlt, List.map_append, List.push_toArray]; rfl
      · rw [ht, List.take_succ_eq_append_getElem hlt, List.map_append]; rfl
    · rintro ⟨parts, taken⟩ s' ⟨k, hk, hrest, hs, hp, ht⟩
      subst s'
      obtain rfl : k = ls.length := by simpa using hk
      rw [List.take_length] at hp ht
      dsimp only at hp ht ⊢
      refine wpAny_bind (wpAny_of_eq (a := sep.toArray) rfl ?_)
      subst hp
      have hfold : ∀ (xs : List (List UInt8 × Tok)) (n : Nat), Array.foldl (fun x1 x2 => x1 + x2.size) n (xs.map fun p => p.1.toArray).toArray = n + (xs.map fun p => p.1.length).sum := by
        intro xs
        induction xs with
        | nil => intro n; simp
        | cons p r ih => intro n; have := ih (n + p.1.length); simp at this ⊢; omega
      refine bm_if_false ?_ ?_
      · rw [hfold]
        unfold Builtin.Bytes.tooLong
        rw [sizeLine_eq]
        refine decide_eq_false ?_
        have : sep.toArray.size * (((ls.map fun p => p.1.toArray).toArray).size - 1) ≤ ls.length * sep.length := by
          rw [Nat.mul_comm]
          exact Nat.mul_le_mul (by simp) (by simp)
        omega
      have hj : Builtin.Bytes.joined sep.toArray ((ls.map fun p => p.1.toArray).toArray).toList = (joinL sep (ls.map (·.1))).toArray := by
        rw [List.toList_toArray]
        have := joined_eq sep (ls.map (·.1))
        rw [List.map_map] at this
        exact this
      rw [hj]
      refine wpAny_bind (wpAny_mkBytes (b := (joinL sep (ls.map (·.1))).toArray) ?_ ?_)
      · refine wpAny_bind (wpAny_holding (wpAny_point ?_))
        refine wpAny_bind (joinLetGo_bytes _ _ (fun p hp => ?_) ?_)
        · rw [ht] at hp
          obtain ⟨q, _, rfl⟩ := List.mem_map.mp hp
          rfl
        · exact wpAny_pure ⟨_, rfl, h _ _⟩
      · have := joinL_length sep (ls.map (·.1))
        rw [List.size_toArray, sizeLine_eq]
        rw [List.map_map, List.length_map] at this
        exact Nat.le_trans this hsz
end
end Mine
end
section
open PySem PySem.W PyProof.Rows PySem.Calls
set_option maxRecDepth 100000
namespace Mine
set_option linter.unusedVariables false
def splitB : List UInt8 → List (List UInt8)
  | [] => [[]]
  | c :: r => if c = 46 then [] :: splitB r else match splitB r with
    | x :: xs => (c :: x) :: xs
    | [] => [[c]]
theorem splitB_ne : ∀ l, splitB l ≠ []
  | [] => by simp [splitB]
  | c :: r => by
    unfold splitB
    split
    · simp
    · split <;> simp
def pos46 : List UInt8 → Nat → List Nat
  | [], _ => []
  | c :: r, n => if c = 46 then n :: pos46 r (n + 1) else pos46 r (n + 1)
theorem ext_one {l : List UInt8} {i : Nat} (h : i < l.length) : l.toArray.extract i (i + 1) = #[l[i]] := by
  rw [List.extract_toArray]
  congr 1
  rw [List.extract_eq_take_drop, Nat.add_sub_cancel_left, List.drop_eq_getElem_cons h]
  rfl
theorem occ_go (b : List UInt8) : ∀ (r : List UInt8) (n : Nat) (P : List Nat) (last : Nat), b.drop n = r → n + r.length = b.length → last ≤ n →
    ((List.range' n r.length).foldl (fun (acc : List Nat × Nat) (i : Nat) => if (decide (i ≥ acc.2) && b.toArray.extract i (i + (#[46] : Array UInt8).size) == #[46]) = true then (i :: acc.1, i + (#[46] : Array UInt8).size) else acc) (P, last)).1 = (pos46 r n).reverse ++ P
  | [], n, P, last, _, _, _ => by simp [pos46]
  | c :: r, n, P, last, hd, hn, hl => by
    have hlt : n < b.length := by simp at hn; omega
    have hc : b[n] = c := by
      have := congrArg List.head? hd
      rw [List.head?_drop, List.getElem?_eq_getElem hlt] at this
      exact Option.some.inj this
    have hr : b.drop (n + 1) = r := by
      have := congrArg List.tail hd
      simpa [List.tail_drop] using this
    rw [List.length_cons, List.range'_succ, List.foldl_cons]
    simp only [List.size_toArray, List.length_cons, List.length_nil, Nat.zero_add, ext_one hlt, hc]
    have ih := occ_go b r (n + 1)
    simp only [List.size_toArray, List.length_cons, List.length_nil, Nat.zero_add] at ih
    by_cases h46 : c = 46
    · rw [if_pos (by simp [h46, hl])]
      rw [ih _ _ hr (by simp at hn; omega) (by omega)]
      simp [pos46, h46]
    · rw [if_neg (by simp [h46])]
      rw [ih _ _ hr (by simp at hn; omega) (by omega)]
      simp [pos46, h46]
theorem occ_eq (b : List UInt8) : Builtin.Bytes.occurrences b.toArray #[46] 0 b.toArray.size = pos46 b 0 := by
  unfold Builtin.Bytes.occurrences
  have h := occ_go b b 0 [] 0 rfl (by simp) (Nat.le_refl _)
  have e : (List.range (b.toArray.size + 1 - (0 + (#[46] : Array UInt8).size))).map (· + 0) = List.range' 0 b.length := by
    simp [List.range_eq_range']
  rw [e]
  have h2 := congrArg List.reverse h
  simp only [List.append_nil, List.reverse_reverse] at h2
  exact h2
def glue (cur : List UInt8) : List (List UInt8) → List (List UInt8)
  | [] => []
  | x :: xs => (cur ++ x) :: xs
theorem ext_snoc {b : List UInt8} {last n : Nat} (hl : last ≤ n) (h : n < b.length) : b.extract last (n + 1) = b.extract last n ++ [b[n]] := by
  rw [List.extract_eq_take_drop, List.extract_eq_take_drop]
  have : n + 1 - last = (n - last) + 1 := by omega
  rw [this, List.take_add_one, List.getElem?_drop]
  have e : last + (n - last) = n := by omega
  rw [e, List.getElem?_eq_getElem h]; rfl
theorem btw_go (b : List UInt8) : ∀ (r : List UInt8) (n : Nat) (parts : Array (Array UInt8)) (last : Nat), b.drop n = r → n + r.length = b.length → last ≤ n →
    (match (pos46 r n).foldl (fun (x : Array (Array UInt8) × Nat) (p : Nat) => (x.1.push (b.toArray.extract x.2 p), p + 1)) (parts, last) with
      | (parts, last) => (parts.push (b.toArray.extract last b.toArray.size)).toList) = parts.toList ++ (glue (b.extract last n) (splitB r)).map List.toArray
  | [], n, parts, last, hd, hn, hl => by
    have : n = b.length := by simpa using hn
    subst this
    simp [pos46, splitB, glue]
  | c :: r, n, parts, last, hd, hn, hl => by
    have hlt : n < b.length := by simp at hn; omega
    have hc : b[n] = c := by
      have := congrArg List.head? hd
      rw [List.head?_drop, List.getElem?_eq_getElem hlt] at this
      exact Option.some.inj this
    have hr : b.drop (n + 1) = r := by
      have := congrArg List.tail hd
      simpa [List.tail_drop] using this
    have hn' : n + 1 + r.length = b.length := by simp at hn; omega
    by_cases h46 : c = 46
    · have hp : pos46 (c :: r) n = n :: pos46 r (n + 1) := by simp [pos46, h46]
      rw [hp, List.foldl_cons]
      have ih := btw_go b r (n + 1) (parts.push (b.toArray.extract last n)) (n + 1) hr hn' (Nat.le_refl _)
      refine ih.trans ?_
      have hs : splitB (c :: r) = [] :: splitB r := by simp [splitB, h46]
      rw [hs]
      have hne := splitB_ne r
      cases hq : splitB r with
      | nil => exact absurd hq hne
      | cons x xs => simp [glue, List.extract_eq_take_drop]
    · have hp : pos46 (c :: r) n = pos46 r (n + 1) := by simp [pos46, h46]
      rw [hp]
      have ih := btw_go b r (n + 1) parts last hr hn' (by omega)
      refine ih.trans ?_
      rw [ext_snoc hl hlt, hc]
      have hne := splitB_ne r
      cases hq : splitB r with
      | nil => exact absurd hq hne
      | cons x xs => simp [glue, splitB, h46, hq]
theorem btw_eq (b : List UInt8) : Builtin.Bytes.between b.toArray 1 (pos46 b 0) = (splitB b).map List.toArray := by
  have h := btw_go b b 0 #[] 0 rfl (by simp) (Nat.le_refl _)
  unfold Builtin.Bytes.between
  refine Eq.trans ?_ (h.trans ?_)
  · rfl
  · have hne := splitB_ne b
    cases hq : splitB b with
    | nil => exact absurd hq hne
    | cons x xs => simp [glue, List.extract_eq_take_drop]
theorem splitB_46 (r : List UInt8) : splitB (46 :: r) = [] :: splitB r := by simp [splitB]
theorem splitB_cons {c : UInt8} (r : List UInt8) (hc : ¬ c = 46) : splitB (c :: r) = glue [c] (splitB r) := by
  have hne := splitB_ne r
  cases hq : splitB r with
  | nil => exact absurd hq hne
  | cons y ys => simp [splitB, hc, hq, glue]
theorem glue_glue (a b : List UInt8) (l : List (List UInt8)) : glue a (glue b l) = glue (a ++ b) l := by
  cases l <;> simp [glue]
theorem splitB_append : ∀ (x : List UInt8) (r : List UInt8), (46 : UInt8) ∉ x → splitB (x ++ r) = glue x (splitB r)
  | [], r, _ => by
    have hne := splitB_ne r
    cases hq : splitB r with
    | nil => exact absurd hq hne
    | cons y ys => simp [glue, hq]
  | c :: x, r, h => by
    have ih := splitB_append x r (fun hm => h (.tail _ hm))
    have hc : ¬ c = 46 := fun e => h (e ▸ .head _)
    show splitB (c :: (x ++ r)) = _
    rw [splitB_cons _ hc, ih, glue_glue]
    rfl
theorem splitB_join : ∀ ls : List (List UInt8), ls ≠ [] → (∀ l ∈ ls, (46 : UInt8) ∉ l) → splitB (joinL [46] ls) = ls
  | [], h, _ => absurd rfl h
  | [x], _, h => by
    have := splitB_append x [] (h x (.head _))
    rw [List.append_nil] at this
    rw [joinL, this]; simp [splitB, glue]
  | x :: y :: r, _, h => by
    rw [joinL, List.append_assoc, splitB_append x _ (h x (.head _))]
    have ih := splitB_join (y :: r) (by simp) fun l hl => h l (.tail _ hl)
    show glue x (splitB (46 :: joinL [46] (y :: r))) = _
    rw [splitB_46, ih]
    simp [glue]
section
variable {prog : Program} {w : World} {A : Around} {E : Value → Shared → Prop} {s : Shared} {t u : Tok}
theorem mapM_bytes {M : Model} {Q : List Value → Shared → Prop} : ∀ (xs : List (List UInt8)) (s : Shared), (∀ l ∈ xs, l.length ≤ 16777216) → (∀ ls k, ls.map (·.1) = xs → Q (bv ls) { s with toks := k }) → wpAny M A ((xs.map List.toArray).mapM fun b => Builtin.Bytes.Kind.bytes.new b) Q E s
  | [], s, _, h => by
    rw [List.map_nil, List.mapM_nil]
    exact wpAny_pure (h [] s.toks rfl)
  | x :: xs, s, hs, h => by
    rw [List.map_cons, List.mapM_cons]
    refine wpAny_bind (wpAny_mkBytes (b := x.toArray) ?_ (by rw [List.size_toArray, sizeLine_eq]; exact hs x (.head _)))
    refine wpAny_bind (mapM_bytes xs _ (fun l hl => hs l (.tail _ hl)) fun ls k hls => ?_)
    exact wpAny_pure (h ((x, s.toks) :: ls) k (by rw [List.map_cons, hls]))
theorem splitB_len : ∀ (b : List UInt8) (l : List UInt8), l ∈ splitB b → l.length ≤ b.length
  | [], l, h => by simp [splitB] at h; simp [h]
  | c :: r, l, h => by
    unfold splitB at h
    split at h
    · rcases List.mem_cons.mp h with rfl | h
      · simp
      · have := splitB_len r l h; simp; omega
    · split at h
      · rename_i x xs hq
        rcases List.mem_cons.mp h with rfl | h
        · have := splitB_len r x (by rw [hq]; exact .head _); simp; omega
        · have := splitB_len r l (by rw [hq]; exact .tail _ h); simp; omega
      · have : l = [c] := by simpa using h
        subst this; simp
theorem splitB_count : ∀ (b : List UInt8), (splitB b).length ≤ b.length + 1
  | [] => by simp [splitB]
  | c :: r => by
    have := splitB_count r
    unfold splitB
    split
    · simp; omega
    · split
      · rename_i x xs hq; rw [hq] at this; simp at this ⊢; omega
      · simp
theorem call_split {h₀ : Heap} {L : Addr} {m : Str → Option Value} {news : List (Addr × Obj)} {b : List UInt8} {Q : Value → Shared → Prop} (F : Fr h₀ L s.heap m) (N : News h₀ L s.heap news) (hsz : b.length ≤ 1000000)
    (h : ∀ ls a h' k, ls.map (·.1) = splitB b → Fr h₀ L h' m → News h₀ L h' ((a, listOf (bv ls).toArray 0) :: news) → (∀ p ∈ news, p.1 < a) → Q (.ref a) { s with heap := h', toks := k }) :
    wpAny (model prog w) A (call (.builtin "bytes.split") [.bytes b.toArray t, .bytes #[46] u]) Q E s := by
  refine call_wp FY.slot_split (typeIs_bytes _ _ _) FY.entry_split (FY.args_split_2 _ _) ?_
  unfold Builtin.«bytes.split» Builtin.Bytes.splitM
  refine wpAny_bind (wpAny_of_eq (a := [some (Value.bytes #[46] u), none]) (by kernel_rfl) ?_)
  refine wpAny_bind (wpAny_of_eq (a := (-1 : Int)) rfl ?_)
  refine wpAny_bind (wpAny_of_eq (a := b.toArray) rfl ?_)
  dsimp only
  refine wpAny_bind (wpAny_of_eq KBd.like_eq ?_)
  refine bm_if_false (by decide) ?_
  have hpl : (Builtin.Bytes.occurrences b.toArray #[46] 0 b.toArray.size).take (if (-1 : Int) < 0 then b.toArray.size + 1 else (-1 : Int).toNat) = pos46 b 0 := by
    rw [occ_eq, if_pos (by decide)]
    refine List.take_of_length_le ?_
    have key : ∀ (r : List UInt8) (n : Nat), (pos46 r n).length ≤ r.length := by
      intro r
      induction r with
      | nil => intro n; simp [pos46]
      | cons c r ih => intro n; have := ih (n + 1); unfold pos46; split <;> simp <;> omega
    have := key b 0
    simp; omega
  rw [show (if false = true then Builtin.Bytes.occurrencesFromRight b.toArray #[46] (if (-1 : Int) < 0 then b.toArray.size + 1 else (-1 : Int).toNat) else (Builtin.Bytes.occurrences b.toArray #[46] 0 b.toArray.size).take (if (-1 : Int) < 0 then b.toArray.size + 1 else (-1 : Int).toNat)) = pos46 b 0 from hpl]
  have hbt := btw_eq b
  by_cases he : pos46 b 0 = []
  · refine bm_if_true (by rw [he]; rfl) ?_
    rw [he] at hbt
    have hsp : splitB b = [b] := by
      have h1 : (splitB b).map List.toArray = [b].map List.toArray := by
        rw [← hbt]
        simp [Builtin.Bytes.between]
      have h2 := congrArg (List.map Array.toList) h1
      rw [List.map_map, List.map_map] at h2
      have e : (Array.toList ∘ List.toArray : List UInt8 → List UInt8) = id := by funext x; simp
      rw [e, List.map_id, List.map_id] at h2
      exact h2
    refine wpAny_bind (wpAny_rule (wpAny_bind ?_))
    unfold Builtin.Bytes.Kind.same
    refine wpAny_bind (wpAny_typeOf (typeIs_bytes _ _ _) ?_)
    refine bm_if_true (by decide) ?_
    refine wpAny_pure (wpAny_bind ?_)
    refine newList_K F N (fun a h' F' N' hlt => ?_) (by simp [sizeLine_eq])
    exact wpAny_pure ⟨_, rfl, h [(b, t)] a h' s.toks (by rw [hsp]; rfl) F' N' hlt⟩
  · refine bm_if_false (by simpa using he) ?_
    rw [show (#[46] : Array UInt8).size = 1 from rfl, hbt]
    refine wpAny_bind (mapM_bytes _ _ (fun l hl => ?_) fun ls k hls => ?_)
    · have := splitB_len b l hl; omega
    refine wpAny_bind ?_
    refine newList_K (s := { s with toks := k }) F N (fun a h' F' N' hlt => ?_) ?_
    · exact wpAny_pure ⟨_, rfl, h ls a h' k hls F' N' hlt⟩
    · have h1 := splitB_count b
      have h2 := congrArg List.length hls
      rw [List.length_map] at h2
      simp only [bv, List.length_map, sizeLine_eq]
      omega
end
end Mine
end
section
open PySem PySem.W PyProof.Rows PySem.Calls
set_option maxRecDepth 100000
namespace Mine
set_option linter.unusedVariables false
def bOf (l : List Nat) : List UInt8 := l.map Nat.toUInt8
section
variable {prog : Program} {w : World} {A : Around} {E : Value → Shared → Prop} {s : Shared} {x : Str} {t u : Tok}
theorem enc_eq2 : Builtin.«str.encode» ⟨[.str x t, .str (Str.ofString "utf-8") u], []⟩ = (Builtin._codecs.encodeNarrow "str.encode" Builtin._codecs.utf8Codec none (.str x t) x >>= fun b => mkBytes b) >>= fun v => ret v := by kernel_rfl
theorem enc_eq1 : Builtin.«str.encode» ⟨[.str x t], []⟩ = (Builtin._codecs.encodeNarrow "str.encode" Builtin._codecs.utf8Codec none (.str x t) x >>= fun b => mkBytes b) >>= fun v => ret v := by kernel_rfl
theorem enc_narrow {l : List Nat} (hl : ∀ c ∈ l, c < 128) (hz : l.length ≤ 16777216) {M : Model} {Q : Array UInt8 → Shared → Prop} (h : Q (bOf l).toArray s) :
    wpAny M A (Builtin._codecs.encodeNarrow "str.encode" Builtin._codecs.utf8Codec none (.str (sOf l) t) (sOf l)) Q E s := by
  unfold Builtin._codecs.encodeNarrow
  dsimp only
  have hsz : (sOf l).length = l.length := sOf_len l
  rw [show forIn (m := Sem) [:(sOf l).length] ((0, #[], {}) : Nat × Array UInt8 × Builtin._codecs.Faults) = forIn (m := Sem) (List.range l.length) ((0, #[], {}) : Nat × Array UInt8 × Builtin._codecs.Faults) from by
      funext f; rw [Std.Legacy.Range.forIn_eq_forIn_range', hsz]; simp [List.range_eq_range', Std.Legacy.Range.size]]
  refine wpAny_bind (wpAny_forIn_list _ (fun rest b s' => s' = s ∧ ((b.1 = 0 ∧ b.2.1 = #[] ∧ rest.length = l.length) ∨ (b.1 = l.length ∧ b.2.1 = (bOf l).toArray))) _ ?_ ?_ _ _ ⟨rfl, .inl ⟨rfl, rfl, by simp⟩⟩)
  · rintro i rest ⟨i, out, st⟩ s' ⟨hs, hb⟩
    subst s'
    dsimp only at hb ⊢
    rcases hb with ⟨rfl, rfl, hr⟩ | ⟨rfl, rfl⟩
    · obtain ⟨c, r, rfl⟩ : ∃ c r, l = c :: r := by
        cases l with
        | nil => simp at hr
        | cons c r => exact ⟨c, r, rfl⟩
      rw [if_neg (by simp)]
      have h0 : (sOf (c :: r)).cps[0]? = some c := rfl
      rw [h0]
      dsimp only
      have hex : (sOf (c :: r)).cps.extract 0 = (c :: r).toArray := by simp [sOf]
      have hfi : Array.findIdx? Builtin._codecs.utf8Codec.bad (sOf (c :: r)).cps.extract = none := by
        rw [Array.findIdx?_eq_none_iff]
        intro y hy
        have hy' : y ∈ c :: r := by simpa [sOf] using hy
        have := hl y hy'
        show Str.isSurrogate y = false
        unfold Str.isSurrogate
        simp; omega
      rw [hfi]
      have hbad : (!Builtin._codecs.utf8Codec.bad c) = true := by
        have := hl c (.head _)
        show (!Str.isSurrogate c) = true
        unfold Str.isSurrogate
        simp; omega
      refine bm_if_true hbad (wpAny_pure ?_)
      refine ⟨rfl, .inr ⟨by simp [sOf], ?_⟩⟩
      have key : ∀ (ys : List Nat) (acc : Array UInt8), (∀ y ∈ ys, y < 128) → ys.foldl (fun acc y => acc ++ (Builtin._codecs.utf8Codec.bytesOf y).toArray) acc = acc ++ (bOf ys).toArray := by
        intro ys
        induction ys with
        | nil => intro acc _; simp [bOf]
        | cons y ys ih =>
          intro acc hy
          rw [List.foldl_cons, ih _ fun z hz => hy z (.tail _ hz)]
          have : Builtin._codecs.utf8Codec.bytesOf y = [y.toUInt8] := by
            show Str.utf8Of y = _
            unfold Str.utf8Of
            rw [if_pos (hy y (.head _))]
          rw [this]
          simp [bOf]
      have := key (c :: r) #[] hl
      simpa [sOf] using this
    · rw [if_neg (by simp [bOf, sizeLine_eq]; exact hz)]
      have h0 : (sOf l).cps[l.length]? = none := by simp [sOf]
      rw [h0]
      exact wpAny_pure (wpAny_pure h)
  · rintro ⟨i, out, st⟩ s' ⟨hs, hb⟩
    subst s'
    dsimp only at hb ⊢
    rcases hb with ⟨rfl, rfl, hr⟩ | ⟨rfl, rfl⟩
    · have : l = [] := List.eq_nil_of_length_eq_zero (by simpa using hr.symm)
      subst this
      exact wpAny_pure h
    · exact wpAny_pure h
theorem getMethod_encode {M : Model} {pl : Sem Bool} {Q : Value × List Value → Shared → Prop} (h : Q (.builtin "str.encode", [.str x t]) s) : wpAny M A (getMethod (.str x t) "encode" pl) Q E s := by
  with_reducible exact getMethod_builtin (typeIs_str _ _ _) F.plainAttrs_str F.slot_str_encode F.type_str_encode (fun _ e => nomatch e) h
theorem call_encode2 {l : List Nat} {Q : Value → Shared → Prop} (hl : ∀ c ∈ l, c < 128) (hz : l.length ≤ 16777216) (h : ∀ t' k, Q (.bytes (bOf l).toArray t') { s with toks := k }) :
    wpAny (model prog w) A (call (.builtin "str.encode") [.str (sOf l) t, .str (Str.ofString "utf-8") u]) Q E s := by
  refine call_wp F.slot_str_encode (typeIs_str _ _ _) F.entry_str_encode (F.args_str_encode_2 _ _) ?_
  rw [enc_eq2]
  refine wpAny_bind (wpAny_bind (enc_narrow hl hz (wpAny_mkBytes ?_ (by simp [bOf, sizeLine_eq]; exact hz))))
  exact wpAny_pure ⟨_, rfl, h _ _⟩
theorem call_encode1 {l : List Nat} {Q : Value → Shared → Prop} (hl : ∀ c ∈ l, c < 128) (hz : l.length ≤ 16777216) (h : ∀ t' k, Q (.bytes (bOf l).toArray t') { s with toks := k }) :
    wpAny (model prog w) A (call (.builtin "str.encode") [.str (sOf l) t]) Q E s := by
  refine call_wp F.slot_str_encode (typeIs_str _ _ _) F.entry_str_encode (F.args_str_encode_1 _) ?_
  rw [enc_eq1]
  refine wpAny_bind (wpAny_bind (enc_narrow hl hz (wpAny_mkBytes ?_ (by simp [bOf, sizeLine_eq]; exact hz))))
  exact wpAny_pure ⟨_, rfl, h _ _⟩

/-- the decoder over plain bytes -/
theorem run_ascii {b : List UInt8} {id : String} (hb : ∀ c ∈ b, c.toNat < 128) (hz : b.length ≤ 16777216) {M : Model} {Q : Array Nat × Nat → Shared → Prop} (h : Q ((b.map UInt8.toNat).toArray, b.length) s) :
    wpAny M A (Builtin._codecs.runDecoder id Builtin._codecs.utf8Decoder none true b.toArray 0 []) Q E s := by
  unfold Builtin._codecs.runDecoder
  dsimp only
  rw [show forIn (m := Sem) [:b.toArray.size] ((0, #[], { held := [] }) : Nat × Array Nat × Builtin._codecs.Faults) = forIn (m := Sem) (List.range b.length) ((0, #[], { held := [] }) : Nat × Array Nat × Builtin._codecs.Faults) from by
      funext f; rw [Std.Legacy.Range.forIn_eq_forIn_range']; simp [List.range_eq_range', Std.Legacy.Range.size]]
  refine wpAny_bind (wpAny_forIn_list _ (fun rest x s' => s' = s ∧ x.1 + rest.length = b.length ∧ x.2.1 = ((b.take x.1).map UInt8.toNat).toArray) _ ?_ ?_ _ _ ⟨rfl, by simp, by simp⟩)
  · rintro i rest ⟨p, out, st⟩ s' ⟨hs, hk, ho⟩
    subst s'
    dsimp only at hk ho ⊢
    have hlt : p < b.length := by simp at hk; omega
    have hos : out.size = p := by rw [ho]; simp; omega
    rw [if_neg (by rw [hos, sizeLine_eq]; omega), if_neg (by simp; omega)]
    have hget : b.toArray.getD p 0 = b[p] := by simp [Array.getD, hlt]
    have hfind : Builtin._codecs.utf8Decoder.find true b.toArray p = .text [b[p].toNat] (p + 1) := by
      show (match Builtin.Bytes.utf8At b.toArray p with | (.char c, next) => Builtin._codecs.Found.char c next | (.bad _ stop reason, _) => _) = _
      have : Builtin.Bytes.utf8At b.toArray p = (.char b[p].toNat, p + 1) := by
        unfold Builtin.Bytes.utf8At
        rw [hget]
        dsimp only
        rw [if_pos (hb _ (List.getElem_mem hlt))]
      rw [this]
      rfl
    rw [hfind]
    dsimp only
    refine wpAny_pure ⟨rfl, by simp at hk ⊢; omega, ?_⟩
    dsimp only
    rw [ho, List.take_succ_eq_append_getElem hlt, List.map_append]
    simp
  · rintro ⟨p, out, st⟩ s' ⟨hs, hk, ho⟩
    subst s'
    dsimp only at hk ho ⊢
    have : p = b.length := by simpa using hk
    subst this
    rw [ho, List.take_length]
    exact wpAny_pure h
theorem text_call {b : List UInt8} {t1 t2 : Tok} {d : Str} {Q : Value → Shared → Prop} (hb : ∀ c ∈ b, c.toNat < 128) (hz : b.length ≤ 16777216) (h : ∀ t' k, Q (.str (sOf (b.map UInt8.toNat)) t') { s with toks := k }) :
    wpAny (model prog w) A (call (.builtin "_codecs.decode.text") [.bytes b.toArray t, .str (Str.ofString "utf-8") t1, .none, .str d t2]) Q E s := by
  refine call_function_entry KBd.kind_text KBd.plain_text KBd.entry_text (KBd.args_text _ _ _ _) ?_
  show wpAny _ _ (Builtin.Bytes.bytesLike _ (.bytes b.toArray t) >>= fun r => _) _ _ s
  refine wpAny_bind (wpAny_of_eq KBd.like_eq ?_)
  refine wpAny_bind (wpAny_of_eq KBd.held_eq ?_)
  show wpAny _ _ (Builtin._codecs.decodeRoad _ b.toArray (Str.ofString "utf-8") none [] >>= fun v => _) _ _ s
  rw [KBd.road_eq]
  refine wpAny_bind (wpAny_bind (run_ascii hb hz ?_))
  refine wpAny_mkStr (x := sOf (b.map UInt8.toNat)) (wpAny_pure ⟨_, rfl, h _ _⟩) ?_
  rw [sOf_len, List.length_map, sizeLine_eq]; exact hz
theorem dec_eq0 : Builtin.«bytes.decode» ⟨[.bytes #[] t, .str (Str.ofString "utf-8") u], []⟩ = (rule "bytes.decode.empty" >>= fun _ => retStr Str.empty) := by kernel_rfl
theorem dec_eq1 {c : UInt8} {cs : List UInt8} : Builtin.«bytes.decode» ⟨[.bytes (c :: cs).toArray t, .str (Str.ofString "utf-8") u], []⟩ = (mkStr (Str.ofString "utf-8") >>= fun _ => mkStr (Str.ofString "utf-8") >>= fun e => mkStr (Str.ofString "bytes.decode") >>= fun d =>
    call (.builtin "_codecs.decode.text") [.bytes (c :: cs).toArray t, e, .none, d] >>= fun v => ret v) := by kernel_rfl
theorem call_decode {b : List UInt8} {Q : Value → Shared → Prop} (hb : ∀ c ∈ b, c.toNat < 128) (hz : b.length ≤ 16777216) (h : ∀ t' k, Q (.str (sOf (b.map UInt8.toNat)) t') { s with toks := k }) :
    wpAny (model prog w) A (call (.builtin "bytes.decode") [.bytes b.toArray t, .str (Str.ofString "utf-8") u]) Q E s := by
  refine call_wp FB.slot_bytes_decode (typeIs_bytes _ _ _) FB.entry_bytes_decode (FY.args_decode_2 _ _) ?_
  cases b with
  | nil =>
    rw [dec_eq0]
    exact wpAny_bind (wpAny_rule (wpAny_bind (wpAny_mkStr (wpAny_pure ⟨_, rfl, h _ _⟩) (by decide))))
  | cons c cs =>
    rw [dec_eq1]
    refine wpAny_bind (wpAny_mkStr ?_ (by decide))
    refine wpAny_bind (wpAny_mkStr ?_ (by decide))
    refine wpAny_bind (wpAny_mkStr ?_ (by decide))
    exact wpAny_bind (text_call hb hz fun t' k => wpAny_pure ⟨_, rfl, h _ _⟩)
/-- unpack of two octets -/
theorem unpack_H {h₀ : Heap} {L : Addr} {m : Str → Option Value} {news : List (Addr × Obj)} {a b : UInt8} {Q : Value → Shared → Prop} (F : Fr h₀ L s.heap m) (N : News h₀ L s.heap news)
    (h : ∀ l h' tk tk', Fr h₀ L h' m → News h₀ L h' ((l, ({ cls := .type "tuple", data := .seq #[.int (a.toNat * 256 + b.toNat : Nat) tk] } : Obj)) :: news) → (∀ p ∈ news, p.1 < l) → Q (.ref l) { s with heap := h', toks := tk' }) :
    wpAny (model prog w) A (call (.builtin "_struct.unpack") [.str (Str.ofString ">H") t, .bytes #[a, b] u]) Q E s := by
  refine call_function_entry FS.kind_unpack FS.plain_unpack FS.entry_unpack (FS.args_unpack _ _) ?_
  refine wpAny_bind (wpAny_of_eq (a := ()) rfl ?_)
  refine wpAny_bind (wpAny_of_eq (a := ()) rfl ?_)
  refine wpAny_bind (wpAny_of_eq (FS.mod_H _) ?_)
  unfold Builtin.Struct.unpackExact
  refine wpAny_bind (wpAny_of_eq KBd.like_eq ?_)
  refine wpAny_bind (wpAny_pure ?_)
  refine bm_if_false (by rfl) ?_
  refine wpAny_bind ?_
  unfold Builtin.Struct.unpacked
  simp only [FS.fmtH, List.forIn_cons, List.forIn_nil]
  refine wpAny_bind ?_
  refine wpAny_bind ?_
  show wpAny _ _ (if Builtin.Bytes.tooLong 1 = true then _ else (forIn (m := Sem) [:1] (#[] : Array Value) _ >>= fun r => pure (ForInStep.yield r))) _ _ _
  refine bm_if_false (by decide) ?_
  refine wpAny_bind ?_
  rw [show forIn (m := Sem) [:1] (#[] : Array Value) = forIn (m := Sem) [0] (#[] : Array Value) from by funext f; simp [Std.Legacy.Range.forIn_eq_forIn_range', List.range'_succ]]
  rw [List.forIn_cons]
  refine wpAny_bind ?_
  refine wpAny_bind ?_
  refine wpAny_mkInt ?_
  refine wpAny_pure ?_
  dsimp only
  rw [List.forIn_nil]
  refine wpAny_pure (wpAny_pure (wpAny_pure ?_))
  have e : (#[a, b] : Array UInt8).extract (0 + 0 + 0 * 2) (0 + 0 + (0 + 1) * 2) = #[a, b] := by simp
  have e2 : Builtin.Struct.natOf true #[a, b] = a.toNat * 256 + b.toNat := by simp [Builtin.Struct.natOf, Builtin.Memoryview.littleEndian]
  simp only [show 'H'.isLower = false from by decide, Bool.false_and, Bool.false_eq_true, if_false, e, e2]
  show wpAny _ _ (newTuple [_]) _ _ _
  refine newTuple_N (s := { s with toks := s.toks + 1 }) F N (fun h' F' N' => ?_) (by simp [sizeLine_eq])
  exact wpAny_pure ⟨_, rfl, h _ h' _ _ F' N' fun p hp => Heap.lt_size (N p hp).1⟩
end
end Mine
end
section
open PySem PySem.W PyProof.Rows PySem.Calls
set_option maxRecDepth 100000
namespace Mine
set_option linter.unusedVariables false
/-- what a turn of a loop leaves behind -/
def Turned (h₀ : Heap) (L : Addr) (own : List (Addr × Obj)) (Jn : (Str → Option Value) → List (Addr × Obj) → Prop) (s : Shared) (Q : Flow → Shared → Prop) (f : Flow) (s' : Shared) : Prop :=
  match f with
  | .brk => Q .next s'
  | .ret v => Q (.ret v) s'
  | _ => ∃ h tk m news, s' = { s with heap := h, toks := tk } ∧ Fr h₀ L h m ∧ News h₀ L h (own ++ news) ∧ Jn m news
section
variable {prog : Program} {w : World} {A : Around} {s : Shared} {h₀ : Heap} {env : Env}
theorem news_two {L : Addr} {h h' : Heap} {news : List (Addr × Obj)} {I : Addr} (N : News h₀ L h news) (hI : ∀ p ∈ news, p.1 ≠ I) (hk : ∀ b o, b ≠ I → h.get? b = some o → h'.get? b = some o) : News h₀ L h' news :=
  fun p hp => ⟨hk _ _ (hI p hp) (N p hp).1, (N p hp).2⟩
theorem for_walks {Q : Flow → Shared → Prop} {target : Expr} {body orelse : List Stmt} {I : Addr} {fx : List (Addr × Obj)} {n : Nat} {P : Nat → Value → Prop} {St : Nat → Heap → Prop} {L : Addr} (hEL : env.locals = L) {m : Str → Option Value} {news : List (Addr × Obj)}
    (W : Walks prog w A I (I :: fx.map (·.1)) [I] n P St)
    (hL : L ≠ I) (hI0 : h₀.get? I = none) (hst : St 0 s.heap) (F : Fr h₀ L s.heap m) (N : News h₀ L s.heap news)
    (J : Nat → (Str → Option Value) → List (Addr × Obj) → Prop) (h0 : J 0 m news)
    (hfx : ∀ i m news, J i m news → (∀ p ∈ fx, p ∈ news ∨ h₀.get? p.1 = some p.2) ∧ (∀ p ∈ news, p.1 ≠ I))
    (hgo : ∀ i v (s : Shared) (R : Unit → Shared → Prop) (E : Value → Shared → Prop), St i s.heap → R () s → wpAny (model prog w) A (letOwnedTupleGo target (.ref I) v) R E s)
    (alive : ∀ i h, St i h → ∃ o, h.get? I = some o)
    (turn : ∀ i v m₁ news₁ h tk oI, i < n → P i v → J i m₁ news₁ → Fr h₀ L h m₁ → News h₀ L h ((I, oI) :: news₁) →
      wpAny (model prog w) A (assign target env v) (fun _ s₂ => wpAny (model prog w) A (execs body env) (Turned h₀ L [(I, oI)] (J (i + 1)) s Q) (fun _ _ => False) s₂) (fun _ _ => False) { s with heap := h, toks := tk })
    (fin : ∀ m₁ news₁ h tk, J n m₁ news₁ → Fr h₀ L h m₁ → News h₀ L h news₁ → wpAny (model prog w) A (execs orelse env) Q (fun _ _ => False) { s with heap := h, toks := tk }) :
    codeAny (model prog w) A (.forLoop target (.ref I) body orelse env) (fun r s' => match r with | .ok f => Q f s' | .error e => cameBackBy (model prog w) A env (fun _ _ => False) e s') s := by
  subst hEL
  refine codeAny_forLoop_any
    (fun k s' => ∃ h tk m news i, s' = { s with heap := h, toks := tk } ∧ St i h ∧ Fr h₀ env.locals h m ∧ News h₀ env.locals h news ∧ J i m news ∧ i ≤ n ∧ k = n + 1 - i) ?_ (n + 1)
    ⟨s.heap, s.toks, m, news, 0, rfl, hst, F, N, h0, Nat.zero_le _, rfl⟩
  rintro k s' ⟨h, tk, m', news', i, rfl, hst', F', N', hJ, hi, rfl⟩
  have old : ∀ b o, h₀.get? b = some o → b ≠ I := fun b o e hb => by rw [hb, hI0] at e; cases e
  have next : ∀ h₁ : Heap, (∀ b o, b ∉ [I] → h.get? b = some o → h₁.get? b = some o) → Fr h₀ env.locals h₁ m' ∧ News h₀ env.locals h₁ news' := fun h₁ hk₁ =>
    ⟨⟨F'.ns.at' fun o e => hk₁ _ o (by simpa using hL) e, fun b o e => hk₁ b o (by simpa using old b o e) (F'.keep b o e), F'.above⟩,
      news_two N' (hfx _ _ _ hJ).2 fun b o hb e => hk₁ b o (by simpa using hb) e⟩
  by_cases hlt : i < n
  · refine wpAny_mono (W.item i _ (fun r s₁ => ∃ v h₁ tk₁, r = some v ∧ s₁ = { s with heap := h₁, toks := tk₁ } ∧ P i v ∧ St (i + 1) h₁ ∧ Fr h₀ env.locals h₁ m' ∧ News h₀ env.locals h₁ news') (fun _ _ => False) hlt hst' fun v h₁ tk₁ hP hst₁ hk₁ => ?_) (fun r s₁ h₁ => ?_) fun _ _ e => e.elim
    · obtain ⟨F₁, N₁⟩ := next h₁ hk₁
      exact ⟨v, h₁, tk₁, rfl, rfl, hP, hst₁, F₁, N₁⟩
    · obtain ⟨v, h₁, tk₁, rfl, rfl, hP, hst₁, F₁, N₁⟩ := h₁
      dsimp only
      refine hgo (i + 1) v _ _ _ hst₁ ?_
      obtain ⟨oI, hoI⟩ := alive _ _ hst₁
      have N₂ : News h₀ env.locals h₁ ((I, oI) :: news') := by
        intro p hp
        rcases List.mem_cons.mp hp with rfl | hp
        · exact ⟨hoI, Ne.symm hL, hI0⟩
        · exact N₁ p hp
      refine wpAny_mono (turn i v m' news' h₁ tk₁ oI hlt hP hJ F₁ N₂) (fun _ s₂ h₂ => wpAny_mono h₂ (fun f s₃ h₃ => ?_) fun _ _ e => e.elim) fun _ _ e => e.elim
      have key : (∃ h tk m news, s₃ = { s with heap := h, toks := tk } ∧ Fr h₀ env.locals h m ∧ News h₀ env.locals h ([(I, oI)] ++ news) ∧ J (i + 1) m news) →
          ∃ k, k < n + 1 - i ∧ ∃ h tk m news i, s₃ = { s with heap := h, toks := tk } ∧ St i h ∧ Fr h₀ env.locals h m ∧ News h₀ env.locals h news ∧ J i m news ∧ i ≤ n ∧ k = n + 1 - i := by
        rintro ⟨H₃, tk₃, m₃, news₃, rfl, F₃, N₃, J₃⟩
        refine ⟨n + 1 - (i + 1), by omega, H₃, tk₃, m₃, news₃, i + 1, rfl, ?_, F₃, N₃.right, J₃, hlt, rfl⟩
        refine W.frame _ _ _ hst₁ fun b hb o e => ?_
        rcases List.mem_cons.mp hb with rfl | hb
        · rw [hoI] at e; cases e
          exact (N₃ (b, oI) (by simp)).1
        · obtain ⟨p, hp, rfl⟩ := List.mem_map.mp hb
          have e1 : o = p.2 := by
            rcases (hfx _ _ _ hJ).1 p hp with q | q
            · have := (N₁ p q).1; rw [e] at this; exact Option.some.inj this
            · have := F₁.keep _ _ q; rw [e] at this; exact Option.some.inj this
          subst e1
          rcases (hfx _ _ _ J₃).1 p hp with q | q
          · exact (N₃ p (by simp [q])).1
          · exact F₃.keep _ _ q
      cases f with
      | next => exact key h₃
      | cont => exact key h₃
      | brk => exact h₃
      | ret v => exact h₃
  · have hin : i = n := by omega
    subst hin
    refine wpAny_mono (W.done _ (fun r s₁ => ∃ h₁ tk₁, r = none ∧ s₁ = { s with heap := h₁, toks := tk₁ } ∧ Fr h₀ env.locals h₁ m' ∧ News h₀ env.locals h₁ news') (fun _ _ => False) hst' fun h₁ tk₁ hk₁ => ?_) (fun r s₁ h₁ => ?_) fun _ _ e => e.elim
    · obtain ⟨F₁, N₁⟩ := next h₁ hk₁
      exact ⟨h₁, tk₁, rfl, rfl, F₁, N₁⟩
    · obtain ⟨h₁, tk₁, rfl, rfl, F₁, N₁⟩ := h₁
      dsimp only
      exact wpAny_mono (fin m' news' h₁ tk₁ hJ F₁ N₁) (fun _ _ x => x) fun _ _ e => e.elim

theorem for_enum {Q : Flow → Shared → Prop} {xi xc : Str} {pk pv pt : Pos} {x1 : Nat} {body orelse : List Stmt} {e it l : Addr} {lo : Obj} {items : Array Value} {L : Addr} (hEL : env.locals = L) {m : Str → Option Value} {news : List (Addr × Obj)} (hh : A.handled = none)
    (hxi : env.kindOf xi = some .local) (hxc : env.kindOf xc = some .local) (hp : (env.scope.kind == .class || (env.scope.kind == .module && env.locals != env.globals)) = false)
    (hei : e ≠ it) (hle : l ≠ e) (hli : l ≠ it) (hLe : L ≠ e) (hLi : L ≠ it) (he0 : h₀.get? e = none) (hi0 : h₀.get? it = none)
    (he : IsEnum s.heap e it 0 .none) (hit : s.heap.IsListIter it l 0) (hlo : ∀ h : Heap, h.get? l = some lo → h.IsList l items) (F : Fr h₀ L s.heap m) (N : News h₀ L s.heap news)
    (J : Nat → (Str → Option Value) → List (Addr × Obj) → Prop) (h0 : J 0 m news)
    (hfx : ∀ i m news, J i m news → (l, lo) ∈ news ∧ (∀ p ∈ news, p.1 ≠ e ∧ p.1 ≠ it))
    (turn : ∀ i t v m₁ news₁ h tk oe oi, items[i]? = some v → J i m₁ news₁ → Fr h₀ L h (fun y => if y = xc then some v else if y = xi then some (.int i t) else m₁ y) → News h₀ L h ((e, oe) :: (it, oi) :: news₁) →
      wpAny (model prog w) A (execs body env) (Turned h₀ L [(e, oe), (it, oi)] (J (i + 1)) s Q) (fun _ _ => False) { s with heap := h, toks := tk })
    (fin : ∀ m₁ news₁ h tk, J items.size m₁ news₁ → Fr h₀ L h m₁ → News h₀ L h news₁ → wpAny (model prog w) A (execs orelse env) Q (fun _ _ => False) { s with heap := h, toks := tk }) :
    codeAny (model prog w) A (.forLoop (.Tuple [.Name xi pk, .Name xc pv] x1 pt) (.ref e) body orelse env) (fun r s' => match r with | .ok f => Q f s' | .error e => cameBackBy (model prog w) A env (fun _ _ => False) e s') s := by
  subst hEL
  refine codeAny_forLoop_any
    (fun k s' => ∃ h tk m news i, s' = { s with heap := h, toks := tk } ∧ ((∃ old, IsEnum h e it ((i : Nat) : Int) old) ∧ h.IsListIter it l i) ∧ Fr h₀ env.locals h m ∧ News h₀ env.locals h news ∧ J i m news ∧ i ≤ items.size ∧ k = items.size + 1 - i) ?_ (items.size + 1)
    ⟨s.heap, s.toks, m, news, 0, rfl, ⟨⟨_, he⟩, hit⟩, F, N, h0, Nat.zero_le _, rfl⟩
  rintro k s' ⟨h, tk, m', news', i, rfl, ⟨⟨old, he'⟩, hit'⟩, F', N', hJ, hi, rfl⟩
  have W := WalksT.enumerate (prog := prog) (w := w) hh e it l hei hle hli items
  have wrI : ∀ b, b ∉ [e, it] ↔ (b ≠ e ∧ b ≠ it) := fun b => by simp
  have old : ∀ b o, h₀.get? b = some o → b ∉ [e, it] := fun b o x => by
    rw [wrI]; exact ⟨fun hb => (by rw [hb, he0] at x; cases x), fun hb => (by rw [hb, hi0] at x; cases x)⟩
  have next : ∀ h₁ : Heap, (∀ b o, b ∉ [e, it] → h.get? b = some o → h₁.get? b = some o) → Fr h₀ env.locals h₁ m' ∧ News h₀ env.locals h₁ news' := fun h₁ hk₁ =>
    ⟨⟨F'.ns.at' fun o x => hk₁ _ o ((wrI _).2 ⟨hLe, hLi⟩) x, fun b o x => hk₁ b o (old b o x) (F'.keep b o x), F'.above⟩,
      fun p hp => ⟨hk₁ _ _ ((wrI _).2 ((hfx _ _ _ hJ).2 p hp)) (N' p hp).1, (N' p hp).2⟩⟩
  have hst' : (∃ old, IsEnum h e it ((i : Nat) : Int) old) ∧ h.IsListIter it l i ∧ h.IsList l items := ⟨⟨_, he'⟩, hit', hlo _ (N' _ (hfx _ _ _ hJ).1).1⟩
  by_cases hlt : i < items.size
  · refine W.item i _ _ _ hlt hst' fun T vals h₁ tk₁ hPt _ hT hMid hk₁ => ?_
    obtain ⟨t, x, hx, rfl⟩ := hPt
    refine W.go _ x1 pt i T _ _ _ hMid fun h₂ hst₂ hk₂ => ?_
    have ht₂ : h₂.IsTuple T #[.int i t, x] := hT.at fun o e => hk₂ T o (W.apart i T h₁ hMid) e
    refine wpAny_assign_Tuple hh ht₂ rfl rfl fun h₃ hx₃ => ?_
    replace hx₃ : Heap.ExtBut h₂.objs.size h₂ h₃ := hx₃
    have up₃ : ∀ b o, h₂.get? b = some o → h₃.get? b = some o := fun b o x => hx₃ b o (Nat.ne_of_lt (Heap.lt_size x)) x
    obtain ⟨F₃, N₃⟩ := next h₃ fun b o hb x => up₃ b o (hk₂ b o hb (hk₁ b o hb x))
    show wpAny _ A (do holding [x] (assign (.Name xi pk) env (.int i t)); do holding [] (assign (.Name xc pv) env x); pure ()) _ _ _
    refine wpAny_bind (wpAny_holding (wpAny_assign_Name (wpAny_storeName_local hxi F₃.ns (fun h₄ hn₄ hs₄ => ?_) hp)))
    replace hs₄ : Heap.SameBut env.locals h₃ h₄ := hs₄
    have F₄ := F₃.set hn₄ hs₄
    refine wpAny_bind (wpAny_holding (wpAny_assign_Name (wpAny_storeName_local hxc F₄.ns (fun h₅ hn₅ hs₅ => wpAny_pure ?_) hp)))
    replace hs₅ : Heap.SameBut env.locals h₄ h₅ := hs₅
    have F₅ := F₄.set hn₅ hs₅
    have N₅ : News h₀ env.locals h₅ news' := (N₃.set hs₄).set hs₅
    have hst₅ := W.frame _ _ h₅ hst₂ fun b hb o x => hs₅.extBut b o (fun q => by
        rcases List.mem_cons.mp hb with rfl | hb
        · exact hLe q.symm
        · rcases List.mem_cons.mp hb with rfl | hb
          · exact hLi q.symm
          · rw [List.mem_singleton.mp hb] at q
            exact (N' _ (hfx _ _ _ hJ).1).2.1 q) (hs₄.extBut b o (fun q => by
        rcases List.mem_cons.mp hb with rfl | hb
        · exact hLe q.symm
        · rcases List.mem_cons.mp hb with rfl | hb
          · exact hLi q.symm
          · rw [List.mem_singleton.mp hb] at q
            exact (N' _ (hfx _ _ _ hJ).1).2.1 q) (up₃ b o x))
    obtain ⟨⟨old₅, he₅⟩, hit₅, hl₅⟩ := hst₅
    obtain ⟨oi, hoi, hoi2⟩ := id hit₅
    obtain ⟨oe, hoe, hoe2⟩ : ∃ oe, h₅.get? e = some oe ∧ ∀ h' : Heap, h'.get? e = some oe → IsEnum h' e it ((i + 1 : Nat) : Int) old₅ := ⟨_, he₅, fun _ x => x⟩
    have N₆ : News h₀ env.locals h₅ ((e, oe) :: (it, oi) :: news') := by
      intro p hp
      rcases List.mem_cons.mp hp with rfl | hp
      · exact ⟨hoe, Ne.symm hLe, he0⟩
      · rcases List.mem_cons.mp hp with rfl | hp
        · exact ⟨hoi, Ne.symm hLi, hi0⟩
        · exact N₅ p hp
    refine wpAny_mono (turn i t x m' news' h₅ _ oe oi hx hJ F₅ N₆) (fun f s₃ h₆ => ?_) fun _ _ e => e.elim
    have key : (∃ h tk m news, s₃ = { s with heap := h, toks := tk } ∧ Fr h₀ env.locals h m ∧ News h₀ env.locals h ([(e, oe), (it, oi)] ++ news) ∧ J (i + 1) m news) →
        ∃ k, k < items.size + 1 - i ∧ ∃ h tk m news i, s₃ = { s with heap := h, toks := tk } ∧ ((∃ old, IsEnum h e it ((i : Nat) : Int) old) ∧ h.IsListIter it l i) ∧ Fr h₀ env.locals h m ∧ News h₀ env.locals h news ∧ J i m news ∧ i ≤ items.size ∧ k = items.size + 1 - i := by
      rintro ⟨H₃, tk₃, m₃, news₃, rfl, F₃, N₃, J₃⟩
      refine ⟨items.size + 1 - (i + 1), by omega, H₃, tk₃, m₃, news₃, i + 1, rfl, ⟨⟨old₅, hoe2 _ (N₃ (e, oe) (by simp)).1⟩, oi, (N₃ (it, oi) (by simp)).1, hoi2⟩, F₃, N₃.right, J₃, hlt, rfl⟩
    cases f with
    | next => exact key h₆
    | cont => exact key h₆
    | brk => exact h₆
    | ret v => exact h₆
  · have hin : i = items.size := by omega
    subst hin
    refine W.done _ _ _ hst' fun h₁ tk₁ hk₁ => ?_
    obtain ⟨F₁, N₁⟩ := next h₁ hk₁
    exact wpAny_mono (fin m' news' h₁ tk₁ hJ F₁ N₁) (fun _ _ x => x) fun _ _ e => e.elim
end
end Mine
end
section
open PySem PySem.W PyProof.Rows PySem.Calls
set_option maxRecDepth 100000
namespace Mine
set_option linter.unusedVariables false
inductive PtrsAre : List (List UInt8 × Value) → List (List UInt8 × Nat) → Prop
  | nil : PtrsAre [] []
  | cons {k : List UInt8} {p : Nat} {t : Tok} {a b} : PtrsAre a b → PtrsAre ((k, .int p t) :: a) ((k, p) :: b)
def keyB (r : List (List UInt8)) : List UInt8 := (joinL [46] r).map Builtin.Bytes.toUpper
def look {α β : Type} [DecidableEq α] (tb : List (α × β)) (k : α) : Option β := (tb.find? fun e => e.1 = k).map (·.2)
def packL (off : Nat) : List (List UInt8) → List (List UInt8 × Nat) → List UInt8 → List UInt8 × List (List UInt8 × Nat)
  | [], tb, buf => (buf, tb)
  | l :: r, tb, buf => match look tb (keyB (l :: r)) with
    | some p => (buf ++ [((49152 + p) / 256).toUInt8, ((49152 + p) % 256).toUInt8], tb)
    | none => packL off r (if 1 < (keyB (l :: r)).length then tb ++ [(keyB (l :: r), off + buf.length)] else tb) (buf ++ (l.length.toUInt8 :: l))
theorem PtrsAre.look {kvs : List (List UInt8 × Value)} {tb : List (List UInt8 × Nat)} (h : PtrsAre kvs tb) (k : List UInt8) :
    (valueAt kvs k = none ∧ Mine.look tb k = none) ∨ ∃ (p : Nat) (t : Tok), valueAt kvs k = some (.int p t) ∧ Mine.look tb k = some p ∧ (k, p) ∈ tb := by
  induction h with
  | nil => exact .inl ⟨rfl, rfl⟩
  | @cons k' p t a b h ih =>
    by_cases e : k' = k
    · subst e; exact .inr ⟨p, t, by simp [valueAt], by simp [Mine.look], by simp⟩
    · simp only [valueAt, Mine.look, List.find?_cons, e, decide_false] at ih ⊢
      rcases ih with ih | ⟨p', t', h1, h2, h3⟩
      · exact .inl ih
      · exact .inr ⟨p', t', h1, h2, .tail _ h3⟩
theorem PtrsAre.snoc {kvs : List (List UInt8 × Value)} {tb : List (List UInt8 × Nat)} (h : PtrsAre kvs tb) (k : List UInt8) (p : Nat) (t : Tok) : PtrsAre (kvs ++ [(k, .int p t)]) (tb ++ [(k, p)]) := by
  induction h with
  | nil => exact .cons .nil
  | cons h ih => exact .cons ih
theorem PtrsAre.length {kvs : List (List UInt8 × Value)} {tb : List (List UInt8 × Nat)} (h : PtrsAre kvs tb) : kvs.length = tb.length := by
  induction h with
  | nil => rfl
  | cons h ih => simp [ih]
theorem stored_new {α : Type} [DecidableEq α] {kvs : List (α × Value)} {k : α} {v : Value} (h : valueAt kvs k = none) : stored kvs k v = kvs ++ [(k, v)] := by
  unfold stored
  rw [if_neg]
  intro h1
  obtain ⟨x, hx, he⟩ := List.any_eq_true.mp h1
  have : (kvs.find? fun kv => kv.1 = k) = none := by simpa [valueAt] using h
  rw [List.find?_eq_none] at this
  exact this x hx he
theorem or_ptr {p : Nat} (h : p < 16384) : 49152 ||| p = 49152 + p := by
  have := Nat.two_pow_add_eq_or_of_lt (b := p) (i := 14) (by simpa using h) 3
  have e : 2 ^ 14 * 3 = 49152 := by decide
  rw [e] at this
  exact this.symm
theorem drop_step {α : Type} {l : List α} {i : Nat} {x : α} (h : l[i]? = some x) : l.drop i = x :: l.drop (i + 1) := by
  obtain ⟨hi, e⟩ := List.getElem?_eq_some_iff.mp h
  rw [← e, List.drop_eq_getElem_cons hi]
theorem keyB_len (l : List UInt8) (r : List (List UInt8)) : (keyB (l :: r)).length ≤ l.length + ((r.map fun x => x.length + 1).sum) := by
  unfold keyB
  rw [List.length_map]
  induction r generalizing l with
  | nil => simp [joinL]
  | cons x r ih => have := ih x; simp [joinL] at this ⊢; omega
end Mine
end
section
open PySem PySem.W PyProof.Rows PyProof.Rows.LCg
namespace Mine
set_option linter.unusedVariables false
theorem truthyL {prog : Program} {w : World} {A : Around} {E : Value → Shared → Prop} {s : Shared} {l : List UInt8} {t : Tok} {Q : Bool → Shared → Prop} (hz : l.length ≤ 16777216) (h : ∀ k, Q (decide (l ≠ [])) { s with toks := k }) : wpAny (model prog w) A (truthy (.bytes l.toArray t)) Q E s := by
  refine truthy_bytes (by simp; omega) ?_
  have e : ((l.toArray.size : Int) != 0) = decide (l ≠ []) := by cases l <;> simp; omega
  rw [e]; exact h _
theorem append_L {prog : Program} {w : World} {A : Around} {E : Value → Shared → Prop} {s : Shared} {h₀ : Heap} {L D : Addr} {m : Str → Option Value} {news : List (Addr × Obj)} {g : Obj → List (Addr × Obj)} {ls : List (List UInt8 × Tok)} {l : List UInt8} {t : Tok} {n : Nat} {Q : Value → Shared → Prop} (F : Fr h₀ L s.heap m) (N : News h₀ L s.heap news) (U : UpdF D (listOf (bv ls).toArray n) news g) (hz : ls.length ≤ 16777216)
    (h : ∀ h', Fr h₀ L h' m → News h₀ L h' (g (listOf (bv (ls ++ [(l, t)])).toArray (n + 1))) → Q .none { s with heap := h' }) : wpAny (model prog w) A (call (.builtin "list.append") [.ref D, .bytes l.toArray t]) Q E s := by
  obtain ⟨pre, post, rfl, hg, a, b⟩ := U.split
  have z := N (D, _) (List.mem_append.mpr (.inr (.head _)))
  refine append_at (hsz := by simp [bv, sizeLine_eq]; exact hz) z.1 fun h' hs ho' => h h' (F.change hs z.2.1 z.2.2) ?_
  rw [hg]
  refine news_set N a b hs ?_
  rw [ho']
  simp [bv]
theorem kms_fromB (ls : List (List UInt8 × Tok)) (i : Nat) : kms_pick (bv ls).toArray.toList (some ((i : Nat) : Int)) none = bv (ls.drop i) := by
  unfold kms_pick kms_lo kms_hi bv
  have h : ¬ ((i : Nat) : Int) < 0 := by omega
  simp only [h, if_false, Int.toNat_natCast, List.map_drop]
  rw [kmk_drop_min]
  exact List.take_of_length_le (by simp; omega)
theorem lenL {prog : Program} {w : World} {A : Around} {E : Value → Shared → Prop} {s : Shared} {l : List UInt8} {t : Tok} {Q : Value → Shared → Prop} (hz : l.length ≤ 16777216) (h : ∀ t' k, Q (.int (l.length : Nat) t') { s with toks := k }) : wpAny (model prog w) A (call (.builtin "len") [.bytes l.toArray t]) Q E s :=
  len_bytes (by simp; omega) (h _ _)
theorem addL {prog : Program} {w : World} {A : Around} {E : Value → Shared → Prop} {s : Shared} {a b : List UInt8} {t u : Tok} {Q : Value → Shared → Prop} (hz : a.length + b.length ≤ 16777216) (h : ∀ t' k, Q (.bytes (a ++ b).toArray t') { s with toks := k }) : wpAny (model prog w) A (binaryOp .Add (.bytes a.toArray t) (.bytes b.toArray u)) Q E s := by
  refine KBy.add_bytes (by simpa using hz) fun t' k => ?_
  have := h t' k
  rwa [← List.append_toArray] at this
theorem iaddL {prog : Program} {w : World} {A : Around} {E : Value → Shared → Prop} {s : Shared} {a b : List UInt8} {t u : Tok} {Q : Value → Shared → Prop} (hz : a.length + b.length ≤ 16777216) (h : ∀ t' k, Q (.bytes (a ++ b).toArray t') { s with toks := k }) : wpAny (model prog w) A (inplaceOp .Add (.bytes a.toArray t) (.bytes b.toArray u)) Q E s := by
  have hno : typeLookup (.type "bytes") (dunderI "add") = pure none := by rw [typeLookup_type, builtinLookup_eq_fast]; kernel_rfl
  refine iconcat_gives (typeIs_bytes s _ t) (typeIs_bytes s _ u) hno KBy.noFill_bytes_add KBy.seq_bytes_add FB.slot_bytes_add FB.entry_bytes_add (FB.args_bytes_add_2 _ _) (KBy.gives_bytes_add (KBy.tooLong_not (by simpa using hz))) ?_
  have h3 : ∀ t' k, Q (.bytes (a.toArray ++ b.toArray) t') { s with toks := k } := fun t' k => by have := h t' k; rwa [← List.append_toArray] at this
  by_cases hb : a.toArray.isEmpty = true
  · rw [if_pos hb]
    have h' := h3 u s.toks
    rw [Array.isEmpty_iff.1 hb, Array.empty_append] at h'
    exact h'
  · rw [if_neg hb]
    by_cases hc : b.toArray.isEmpty = true
    · rw [if_pos hc]
      have h' := h3 t s.toks
      rw [Array.isEmpty_iff.1 hc, Array.append_empty] at h'
      exact h'
    · rw [if_neg hc]
      exact ⟨by rw [Array.size_append, sizeLine_eq]; simpa using hz, h3 s.toks (s.toks + 1)⟩
theorem or_ptrI {p : Nat} (h : p < 16384) : Builtin.bitOr 49152 (p : Int) = ((49152 + p : Nat) : Int) := by
  rw [bitOr_and, bitAnd_pp (by decide) (by omega)]
  have h1 := nat_or_add_and 49152 p
  rw [or_ptr h] at h1
  have h2 : ((49152 : Int).toNat &&& (p : Int).toNat) = 0 := by
    show 49152 &&& p = 0
    omega
  rw [h2]; omega
theorem m_at4 {m : Str → Option Value} {x1 x2 x3 x4 : Str} {v1 v2 v3 v4 : Value} (h1 : m x1 = some v1) (h2 : m x2 = some v2) (h3 : m x3 = some v3) (h4 : m x4 = some v4) : m = fun y => if y = x1 then some v1 else if y = x2 then some v2 else if y = x3 then some v3 else if y = x4 then some v4 else m y := by
  funext y
  repeat' split
  all_goals first | rfl | (subst y; assumption)
theorem newsName {g h : Heap} {L a : Addr} {o : Obj} {r : List (Addr × Obj)} (N : News g L h ((a, o) :: r)) : ∃ a', a' = a := ⟨a, rfl⟩
theorem bv_get {ls : List (List UInt8 × Tok)} {i : Nat} {v : Value} (h : (bv ls).toArray[i]? = some v) : ∃ l t, ls[i]? = some (l, t) ∧ v = .bytes (List.toArray l) t := by
  simp only [bv, List.getElem?_toArray, List.getElem?_map, Option.map_eq_some_iff] at h
  obtain ⟨⟨l, t⟩, h1, rfl⟩ := h
  exact ⟨l, t, h1, rfl⟩
theorem frNames {g h : Heap} {L : Addr} {m : Str → Option Value} (F : Fr g L h m) : ∃ g' L', g' = g ∧ L' = L := ⟨g, L, rfl, rfl⟩
/-- what a turn of pack_name's loop finds -/
inductive PackJ (w : World) (off : Nat) (lb d : Addr) (lo : Obj) (LS : List (List UInt8)) (goal : List UInt8 × List (List UInt8 × Nat)) (i : Nat) (m : Str → Option Value) (news : List (Addr × Obj)) : Prop
  | mk (buf : List UInt8) (tbi : List (List UInt8 × Nat)) (kvi : List (List UInt8 × Value)) (odi : Obj) (bt ot : Tok) (f1 : m (Str.ofString "buf") = some (.bytes (List.toArray buf) bt)) (f2 : m (Str.ofString "labels") = some (.ref lb)) (f3 : m (Str.ofString "label_ptrs") = some (.ref d)) (f4 : m (Str.ofString "off") = some (.int (off : Int) ot)) (f5 : news = [(lb, lo), (d, odi)]) (f6 : odi.IsDictOf (bytesKind PR w) kvi) (f7 : PtrsAre kvi tbi) (f8 : packL off (LS.drop i) tbi buf = goal) (f9 : (∀ e ∈ tbi, e.2 < 16384)) (f10 : buf.length + ((LS.drop i).map fun l => l.length + 1).sum ≤ 950) (f11 : tbi.length ≤ 1000 + i) : PackJ w off lb d lo LS goal i m news
theorem len_le_sum : ∀ x : List (List UInt8), x.length ≤ (x.map fun l => l.length + 1).sum
  | [] => Nat.le_refl _
  | a :: r => by rw [List.map_cons, List.sum_cons, List.length_cons, Nat.add_comm]; exact Nat.add_le_add (Nat.le_add_left _ _) (len_le_sum r)
theorem sum_len (x : List (List UInt8 × Tok)) : (x.map fun p => p.1.length).sum + x.length * 1 = ((x.map (·.1)).map fun l => l.length + 1).sum := by
  induction x with
  | nil => rfl
  | cons a r ih => simp at ih ⊢; omega
theorem shuf950 {a b s : Nat} (h : Kp (b + 1 + s + a ≤ 950)) : a + (1 + b) + s ≤ 950 := by unfold Kp at h; omega
theorem m_at3 {m : Str → Option Value} {x1 x2 x3 : Str} {v1 v2 v3 : Value} (h1 : m x1 = some v1) (h2 : m x2 = some v2) (h3 : m x3 = some v3) : m = fun y => if y = x1 then some v1 else if y = x2 then some v2 else if y = x3 then some v3 else m y := by
  funext y
  repeat' split
  all_goals first | rfl | (subst y; assumption)
/-- what pack_name finds behind its first question -/
inductive MidP (s : Shared) (g : Heap) (L d : Addr) (od : Obj) (off : Nat) (bl : List (List UInt8)) (f : Flow) (s' : Shared) : Prop
  | mk (f1 : f = .next) (h : Heap) (tk : Nat) (m : Str → Option Value) (lb : Addr) (LS : List (List UInt8 × Tok)) (ot : Tok) (f2 : s' = { s with heap := h, toks := tk }) (f3 : Fr g L h m) (f4 : News g L h [(lb, listOf (bv LS).toArray 0), (d, od)]) (f5 : LS.map (·.1) = bl) (f6 : m (Str.ofString "labels") = some (.ref lb)) (f7 : m (Str.ofString "label_ptrs") = some (.ref d)) (f8 : m (Str.ofString "off") = some (.int (off : Int) ot)) (f9 : @LT.lt Nat _ d lb) : MidP s g L d od off bl f s'
/-- what pack_name's loop leaves -/
inductive PackQ (w : World) (s : Shared) (g : Heap) (L d : Addr) (goal : List UInt8 × List (List UInt8 × Nat)) (f : Flow) (s' : Shared) : Prop
  | mk (f1 : f = .next) (h : Heap) (tk : Nat) (m : Str → Option Value) (buf : List UInt8) (tb : List (List UInt8 × Nat)) (kvs : List (List UInt8 × Value)) (od : Obj) (bt : Tok) (f2 : s' = { s with heap := h, toks := tk }) (f3 : Fr g L h m) (f4 : News g L h [(d, od)]) (f5 : m (Str.ofString "buf") = some (.bytes (List.toArray buf) bt)) (f6 : od.IsDictOf (bytesKind PR w) kvs) (f7 : PtrsAre kvs tb) (f8 : goal = (buf, tb)) : PackQ w s g L d goal f s'
set_option maxRecDepth 100000 in
set_option maxHeartbeats 4000000 in
theorem pack_call {w : World} {mean : ExcName → Option Value} {mg mb : Str → Option Value} {dp un : Nat} {gd : Option (List Code)} {cn : Str} {cs : Scope} {a : Addr} {ccd : Value} {cl : List (Str × Addr)} {outer : List Env} {A₀ : Around} {base h₀ : Heap} {L : Addr}
    {m : Str → Option Value} {s : Shared} {Q E : Value → Shared → Prop} {d : Addr} {od : Obj} {kvs : List (List UInt8 × Value)} {tb : List (List UInt8 × Nat)} {off : Nat} {tk t0 : Tok} {news : List (Addr × Obj)} {g : Obj → List (Addr × Obj)}
    (B : Below A₀ base outer h₀) (F : Fr h₀ L s.heap m) (X : (Mine.hd.heap_39 w.params).In h₀) (N : News h₀ L s.heap news) (T : Top VW LW mean mg mb h₀) (hk : cs.kind = .function)
    (U : UpdF d od news g) (hD : od.IsDictOf (bytesKind PR w) kvs) (hds : (d == sysModules) = false) (hP : PtrsAre kvs tb)
    (hd : dp + 2 < recursionLimit) (hu : un + 16 < cLine)
    {nm : List Nat} {bl : List (List UInt8)} (hnm : ∀ c ∈ nm, c < 128) (hz : nm.length ≤ 1000) (hoff : off ≤ 15400) (htb : ∀ e ∈ tb, e.2 < 16384) (htl : tb.length ≤ 1000) (hsm : (bl.map fun l => l.length + 1).sum ≤ 900) (hl63 : ∀ l ∈ bl, l.length ≤ 63) (hbl : (nm = [] ∧ bl = []) ∨ (nm ≠ [] ∧ bl = splitB (bOf nm)))
    (hret : ∀ (b : List UInt8) (tb' : List (List UInt8 × Nat)) kvs' od' u h' tk', packL off (bl ++ [[]]) tb [] = (b, tb') → PtrsAre kvs' tb' → Fr h₀ L h' m → News h₀ L h' (g od') → od'.IsDictOf (bytesKind PR w) kvs' → Q (.bytes b.toArray u) { s with heap := h', toks := tk' }) :
    wpAny (model PR w) (ktrTop dp un gd cn cs L a ccd cl outer) (call (.ref 93) [.str (sOf nm) t0, .int (off : Int) tk, .ref d]) Q E s := by
  have hret' : ∀ (b : List UInt8) (tb' : List (List UInt8 × Nat)) kvs' od' u h' tk', packL off (bl ++ [[]]) tb [] = (b, tb') → PtrsAre kvs' tb' → Kept [d] s.heap h' → h'.get? d = some od' → od'.IsDictOf (bytesKind PR w) kvs' → Q (.bytes b.toArray u) { s with heap := h', toks := tk' } := by
    intro b tb' kvs' od' u h' tk' c1 c2 a6 a7 a8
    obtain ⟨F', N'⟩ := upd_after F N U a6 a7
    exact hret b tb' kvs' od' u h' tk' c1 c2 F' N' a8
  replace N : News h₀ L s.heap [(d, od)] := News.sub N (by simpa using UpdF.mem U)
  clear hret U
  refine wpAny_call ?_
  k_dflt (first   | (refine' code_defR ?zzk1 ?zzk2 ?zzk3 ?zzk4 ?zzk5 ?zzkA ?zzkF ?zzkK ?zzk6 ?zzk7 ?zzk8 ?zzk9 ?zzkB ?_ ?zzc2 ?zzc3 ?zzc4 ?zzc5; (case zzkA => exact rfl); (case zzkF => exact rfl); (case zzkK => assumption); (case zzk1 => k_asm); (case zzk2 => k_asm); (case zzk3 => k_asm); (case zzk4 => k_asm); (case zzk5 => k_asm); (case zzk6 => k_is); (case zzk7 => k_is); (case zzk8 => ktr_room); (case zzk9 => exact BindsTo.of_eq rfl); (case zzc5 => decide); (case zzkB => exact locs rfl); (case zzc2 => exact rfl); (case zzc3 => exact rfl); (case zzc4 => exact rfl); k_whole; intro zg zL zh zG zlL zF zN zB zX zT; (try dsimp only); (try k_lift zB); (try k_fold)))
  clear N F
  repeat' (first | ((fail_if_success (with_reducible show wpAny _ _ (exec (Stmt.If ..) _) _ _ _)); first | ((with_reducible show wpAny _ _ (subscriptTail (PySem.Expr.Name ..) (PySem.Expr.Slice ..) (Value.ref _) (Value.ref _)) _ _ _); k_dflt (refine' kms_slice_lit ?zzF ?zzN ?zzl ?zzp ?zzq ?zze ?_ ?zzs ?zzt ?zzz; (case zzF => k_asm); (case zzN => k_asm); (case zzl => kmk_list); (case zzp => kmk_part); (case zzq => kmk_part); (case zze => exact kms_fromB _ _); (case zzs => with_unfolding_all rfl); (case zzt => kmk_pure); (case zzz => (simp only [bv, List.size_toArray, List.length_map, sizeLine_eq]; omega))); intro zD zh zF zN zl1; (try k_lt zl1)) | ((with_reducible show wpAny _ _ (call (Value.builtin "_struct.pack") _) _ _ _); k_dflt (first | (refine pack_B (by omega) (by omega) ?_) | (refine pack_H (by omega) (by omega) ?_)); intro zt zk) | ((with_reducible show wpAny _ _ (binaryOp .Add (Value.bytes _ _) (Value.bytes _ _)) _ _ _); k_dflt (refine addL (by first | (simp only [List.length_map, List.length_append, List.length_cons, List.length_nil, List.length_singleton]; omega) | omega) ?_); intro zt zk) | ((with_reducible show wpAny _ _ (call (Value.builtin "len") _) _ _ _); k_dflt (refine lenL (by first | (simp only [List.length_map, List.length_append, List.length_cons, List.length_nil, List.length_singleton]; omega) | omega) ?_); intro zt zk) | ((with_reducible show wpAny _ _ (inplaceOp .Add (Value.bytes _ _) (Value.bytes _ _)) _ _ _); k_dflt (refine iaddL (by first | (simp only [List.length_map, List.length_append, List.length_cons, List.length_nil, List.length_singleton]; omega) | omega) ?_); intro zt zk) | ((with_reducible show wpAny _ _ (call (Value.builtin "bytes.split") _) _ _ _); k_dflt (refine' call_split ?zzF ?zzN ?zzz ?_; (case zzF => k_asm); (case zzN => k_asm); (case zzz => (simp only [bOf, List.length_map]; omega))); intro zls za zh zk zhls zF zN zhlt; (try k_lt zhlt)) | ((with_reducible show wpAny _ _ (call (Value.builtin "list.append") _) _ _ _); k_dflt (refine' append_L (l := []) ?zzF ?zzN ?zzU ?zzz ?_; (case zzF => k_asm); (case zzN => k_asm); (case zzU => k_updF); (case zzz => omega)); intro zh zF zN; (try dsimp only at zN)) | ((with_reducible show wpAny _ _ (truthy (Value.bytes _ _)) _ _ _); k_dflt (refine truthyL (by (first | (simp only [bOf, List.length_map]; omega) | (simp; omega))) ?_); intro zkt) | ((with_reducible show wpAny _ _ (call (Value.builtin "str.encode") _) _ _ _); k_dflt (refine call_encode2 ?_ ?_ ?_; (case _ => assumption); (case _ => omega)); intro zt1 zk1) | ((with_reducible show wpAny _ _ (getMethod (Value.bytes _ _) (Str.ofString "upper") _) _ _ _); k_dflt (refine getMethod_upper ?_)) | ((with_reducible show wpAny _ _ (getMethod (Value.bytes _ _) (Str.ofString "join") _) _ _ _); k_dflt (refine getMethod_join ?_)) | ((with_reducible show wpAny _ _ (getMethod (Value.bytes _ _) (Str.ofString "split") _) _ _ _); k_dflt (refine getMethod_split ?_)) | ((with_reducible show wpAny _ _ (getMethod (Value.str _ _) (Str.ofString "encode") _) _ _ _); k_dflt (refine getMethod_encode ?_)) | (k_unfold; (try dsimp only)) | walk1 | dsimp only) | fail "no step")
  rename Fr _ _ _ _ => F9
  rename News _ _ _ _ => N9
  obtain ⟨gg, LL, eg, eL⟩ := frNames F9
  subst eg; subst eL
  refine wpAny_mono (Q := MidP s gg LL d od off bl) (E := fun _ _ => False) ?_ ?_ (fun _ _ h => h.elim)
  · repeat' (first | ((fail_if_success (with_reducible show wpAny _ _ (isTrue _ _ _) _ _ _)); first | ((with_reducible show wpAny _ _ (subscriptTail (PySem.Expr.Name ..) (PySem.Expr.Slice ..) (Value.ref _) (Value.ref _)) _ _ _); k_dflt (refine' kms_slice_lit ?zzF ?zzN ?zzl ?zzp ?zzq ?zze ?_ ?zzs ?zzt ?zzz; (case zzF => k_asm); (case zzN => k_asm); (case zzl => kmk_list); (case zzp => kmk_part); (case zzq => kmk_part); (case zze => exact kms_fromB _ _); (case zzs => with_unfolding_all rfl); (case zzt => kmk_pure); (case zzz => (simp only [bv, List.size_toArray, List.length_map, sizeLine_eq]; omega))); intro zD zh zF zN zl1; (try k_lt zl1)) | ((with_reducible show wpAny _ _ (call (Value.builtin "_struct.pack") _) _ _ _); k_dflt (first | (refine pack_B (by omega) (by omega) ?_) | (refine pack_H (by omega) (by omega) ?_)); intro zt zk) | ((with_reducible show wpAny _ _ (binaryOp .Add (Value.bytes _ _) (Value.bytes _ _)) _ _ _); k_dflt (refine addL (by first | (simp only [List.length_map, List.length_append, List.length_cons, List.length_nil, List.length_singleton]; omega) | omega) ?_); intro zt zk) | ((with_reducible show wpAny _ _ (call (Value.builtin "len") _) _ _ _); k_dflt (refine lenL (by first | (simp only [List.length_map, List.length_append, List.length_cons, List.length_nil, List.length_singleton]; omega) | omega) ?_); intro zt zk) | ((with_reducible show wpAny _ _ (inplaceOp .Add (Value.bytes _ _) (Value.bytes _ _)) _ _ _); k_dflt (refine iaddL (by first | (simp only [List.length_map, List.length_append, List.length_cons, List.length_nil, List.length_singleton]; omega) | omega) ?_); intro zt zk) | ((with_reducible show wpAny _ _ (call (Value.builtin "bytes.split") _) _ _ _); k_dflt (refine' call_split ?zzF ?zzN ?zzz ?_; (case zzF => k_asm); (case zzN => k_asm); (case zzz => (simp only [bOf, List.length_map]; omega))); intro zls za zh zk zhls zF zN zhlt; (try k_lt zhlt)) | ((with_reducible show wpAny _ _ (call (Value.builtin "list.append") _) _ _ _); k_dflt (refine' append_L (l := []) ?zzF ?zzN ?zzU ?zzz ?_; (case zzF => k_asm); (case zzN => k_asm); (case zzU => k_updF); (case zzz => omega)); intro zh zF zN; (try dsimp only at zN)) | ((with_reducible show wpAny _ _ (truthy (Value.bytes _ _)) _ _ _); k_dflt (refine truthyL (by (first | (simp only [bOf, List.length_map]; omega) | (simp; omega))) ?_); intro zkt) | ((with_reducible show wpAny _ _ (call (Value.builtin "str.encode") _) _ _ _); k_dflt (refine call_encode2 ?_ ?_ ?_; (case _ => assumption); (case _ => omega)); intro zt1 zk1) | ((with_reducible show wpAny _ _ (getMethod (Value.bytes _ _) (Str.ofString "upper") _) _ _ _); k_dflt (refine getMethod_upper ?_)) | ((with_reducible show wpAny _ _ (getMethod (Value.bytes _ _) (Str.ofString "join") _) _ _ _); k_dflt (refine getMethod_join ?_)) | ((with_reducible show wpAny _ _ (getMethod (Value.bytes _ _) (Str.ofString "split") _) _ _ _); k_dflt (refine getMethod_split ?_)) | ((with_reducible show wpAny _ _ (getMethod (Value.str _ _) (Str.ofString "encode") _) _ _ _); k_dflt (refine getMethod_encode ?_)) | (k_unfold; (try dsimp only)) | walk1 | dsimp only) | fail "no step")
    rcases hbl with ⟨e1, e2⟩ | ⟨e1, e2⟩
    · subst e1
      repeat' (first | ((fail_if_success (with_reducible show MidP ..)); first | ((with_reducible show wpAny _ _ (subscriptTail (PySem.Expr.Name ..) (PySem.Expr.Slice ..) (Value.ref _) (Value.ref _)) _ _ _); k_dflt (refine' kms_slice_lit ?zzF ?zzN ?zzl ?zzp ?zzq ?zze ?_ ?zzs ?zzt ?zzz; (case zzF => k_asm); (case zzN => k_asm); (case zzl => kmk_list); (case zzp => kmk_part); (case zzq => kmk_part); (case zze => exact kms_fromB _ _); (case zzs => with_unfolding_all rfl); (case zzt => kmk_pure); (case zzz => (simp only [bv, List.size_toArray, List.length_map, sizeLine_eq]; omega))); intro zD zh zF zN zl1; (try k_lt zl1)) | ((with_reducible show wpAny _ _ (call (Value.builtin "_struct.pack") _) _ _ _); k_dflt (first | (refine pack_B (by omega) (by omega) ?_) | (refine pack_H (by omega) (by omega) ?_)); intro zt zk) | ((with_reducible show wpAny _ _ (binaryOp .Add (Value.bytes _ _) (Value.bytes _ _)) _ _ _); k_dflt (refine addL (by first | (simp only [List.length_map, List.length_append, List.length_cons, List.length_nil, List.length_singleton]; omega) | omega) ?_); intro zt zk) | ((with_reducible show wpAny _ _ (call (Value.builtin "len") _) _ _ _); k_dflt (refine lenL (by first | (simp only [List.length_map, List.length_append, List.length_cons, List.length_nil, List.length_singleton]; omega) | omega) ?_); intro zt zk) | ((with_reducible show wpAny _ _ (inplaceOp .Add (Value.bytes _ _) (Value.bytes _ _)) _ _ _); k_dflt (refine iaddL (by first | (simp only [List.length_map, List.length_append, List.length_cons, List.length_nil, List.length_singleton]; omega) | omega) ?_); intro zt zk) | ((with_reducible show wpAny _ _ (call (Value.builtin "bytes.split") _) _ _ _); k_dflt (refine' call_split ?zzF ?zzN ?zzz ?_; (case zzF => k_asm); (case zzN => k_asm); (case zzz => (simp only [bOf, List.length_map]; omega))); intro zls za zh zk zhls zF zN zhlt; (try k_lt zhlt)) | ((with_reducible show wpAny _ _ (call (Value.builtin "list.append") _) _ _ _); k_dflt (refine' append_L (l := []) ?zzF ?zzN ?zzU ?zzz ?_; (case zzF => k_asm); (case zzN => k_asm); (case zzU => k_updF); (case zzz => omega)); intro zh zF zN; (try dsimp only at zN)) | ((with_reducible show wpAny _ _ (truthy (Value.bytes _ _)) _ _ _); k_dflt (refine truthyL (by (first | (simp only [bOf, List.length_map]; omega) | (simp; omega))) ?_); intro zkt) | ((with_reducible show wpAny _ _ (call (Value.builtin "str.encode") _) _ _ _); k_dflt (refine call_encode2 ?_ ?_ ?_; (case _ => assumption); (case _ => omega)); intro zt1 zk1) | ((with_reducible show wpAny _ _ (getMethod (Value.bytes _ _) (Str.ofString "upper") _) _ _ _); k_dflt (refine getMethod_upper ?_)) | ((with_reducible show wpAny _ _ (getMethod (Value.bytes _ _) (Str.ofString "join") _) _ _ _); k_dflt (refine getMethod_join ?_)) | ((with_reducible show wpAny _ _ (getMethod (Value.bytes _ _) (Str.ofString "split") _) _ _ _); k_dflt (refine getMethod_split ?_)) | ((with_reducible show wpAny _ _ (getMethod (Value.str _ _) (Str.ofString "encode") _) _ _ _); k_dflt (refine getMethod_encode ?_)) | (k_unfold; (try dsimp only)) | walk1 | dsimp only) | fail "no step")
      rename Fr _ _ _ _ => F3
      rename News _ _ _ _ => N3
      exact ⟨rfl, _, _, _, _, [], _, rfl, F3, N3, by rw [e2]; rfl, rfl, rfl, rfl, by omega⟩
    · have hsz : bOf nm ≠ [] := by simpa [bOf] using e1
      repeat' (first | ((fail_if_success (with_reducible show MidP ..)); first | ((with_reducible show wpAny _ _ (subscriptTail (PySem.Expr.Name ..) (PySem.Expr.Slice ..) (Value.ref _) (Value.ref _)) _ _ _); k_dflt (refine' kms_slice_lit ?zzF ?zzN ?zzl ?zzp ?zzq ?zze ?_ ?zzs ?zzt ?zzz; (case zzF => k_asm); (case zzN => k_asm); (case zzl => kmk_list); (case zzp => kmk_part); (case zzq => kmk_part); (case zze => exact kms_fromB _ _); (case zzs => with_unfolding_all rfl); (case zzt => kmk_pure); (case zzz => (simp only [bv, List.size_toArray, List.length_map, sizeLine_eq]; omega))); intro zD zh zF zN zl1; (try k_lt zl1)) | ((with_reducible show wpAny _ _ (call (Value.builtin "_struct.pack") _) _ _ _); k_dflt (first | (refine pack_B (by omega) (by omega) ?_) | (refine pack_H (by omega) (by omega) ?_)); intro zt zk) | ((with_reducible show wpAny _ _ (binaryOp .Add (Value.bytes _ _) (Value.bytes _ _)) _ _ _); k_dflt (refine addL (by first | (simp only [List.length_map, List.length_append, List.length_cons, List.length_nil, List.length_singleton]; omega) | omega) ?_); intro zt zk) | ((with_reducible show wpAny _ _ (call (Value.builtin "len") _) _ _ _); k_dflt (refine lenL (by first | (simp only [List.length_map, List.length_append, List.length_cons, List.length_nil, List.length_singleton]; omega) | omega) ?_); intro zt zk) | ((with_reducible show wpAny _ _ (inplaceOp .Add (Value.bytes _ _) (Value.bytes _ _)) _ _ _); k_dflt (refine iaddL (by first | (simp only [List.length_map, List.length_append, List.length_cons, List.length_nil, List.length_singleton]; omega) | omega) ?_); intro zt zk) | ((with_reducible show wpAny _ _ (call (Value.builtin "bytes.split") _) _ _ _); k_dflt (refine' call_split ?zzF ?zzN ?zzz ?_; (case zzF => k_asm); (case zzN => k_asm); (case zzz => (simp only [bOf, List.length_map]; omega))); intro zls za zh zk zhls zF zN zhlt; (try k_lt zhlt)) | ((with_reducible show wpAny _ _ (call (Value.builtin "list.append") _) _ _ _); k_dflt (refine' append_L (l := []) ?zzF ?zzN ?zzU ?zzz ?_; (case zzF => k_asm); (case zzN => k_asm); (case zzU => k_updF); (case zzz => omega)); intro zh zF zN; (try dsimp only at zN)) | ((with_reducible show wpAny _ _ (truthy (Value.bytes _ _)) _ _ _); k_dflt (refine truthyL (by (first | (simp only [bOf, List.length_map]; omega) | (simp; omega))) ?_); intro zkt) | ((with_reducible show wpAny _ _ (call (Value.builtin "str.encode") _) _ _ _); k_dflt (refine call_encode2 ?_ ?_ ?_; (case _ => assumption); (case _ => omega)); intro zt1 zk1) | ((with_reducible show wpAny _ _ (getMethod (Value.bytes _ _) (Str.ofString "upper") _) _ _ _); k_dflt (refine getMethod_upper ?_)) | ((with_reducible show wpAny _ _ (getMethod (Value.bytes _ _) (Str.ofString "join") _) _ _ _); k_dflt (refine getMethod_join ?_)) | ((with_reducible show wpAny _ _ (getMethod (Value.bytes _ _) (Str.ofString "split") _) _ _ _); k_dflt (refine getMethod_split ?_)) | ((with_reducible show wpAny _ _ (getMethod (Value.str _ _) (Str.ofString "encode") _) _ _ _); k_dflt (refine getMethod_encode ?_)) | (k_unfold; (try dsimp only)) | walk1 | dsimp only) | fail "no step")
      rename Fr _ _ _ _ => F3
      rename News _ _ _ _ => N3
      rename List (List UInt8 × Tok) => LS
      rename List.map _ LS = _ => hLS
      exact ⟨rfl, _, _, _, _, LS, _, rfl, F3, N3, by rw [hLS, e2], rfl, rfl, rfl, by omega⟩
  · rintro f s2 ⟨rfl, h2, tk2, m2, lb0, LS, t9, rfl, F2, N2, hLS, q1, q2, q3, q4⟩
    rw [m_at3 q1 q2 q3] at F2
    clear F9 N9 q1 q2 q3 hnm hz hbl
    have hLn : LS.length ≤ 1001 := by
      have h2 := congrArg List.length hLS
      rw [List.length_map] at h2
      rw [h2]
      exact Nat.le_trans (len_le_sum bl) (Nat.le_trans hsm (by decide))
    dsimp only
    repeat' (first | ((fail_if_success (with_reducible show wpAny _ _ (exec (Stmt.For ..) _) _ _ _)); first | ((with_reducible show wpAny _ _ (subscriptTail (PySem.Expr.Name ..) (PySem.Expr.Slice ..) (Value.ref _) (Value.ref _)) _ _ _); k_dflt (refine' kms_slice_lit ?zzF ?zzN ?zzl ?zzp ?zzq ?zze ?_ ?zzs ?zzt ?zzz; (case zzF => k_asm); (case zzN => k_asm); (case zzl => kmk_list); (case zzp => kmk_part); (case zzq => kmk_part); (case zze => exact kms_fromB _ _); (case zzs => with_unfolding_all rfl); (case zzt => kmk_pure); (case zzz => (simp only [bv, List.size_toArray, List.length_map, sizeLine_eq]; omega))); intro zD zh zF zN zl1; (try k_lt zl1)) | ((with_reducible show wpAny _ _ (call (Value.builtin "_struct.pack") _) _ _ _); k_dflt (first | (refine pack_B (by omega) (by omega) ?_) | (refine pack_H (by omega) (by omega) ?_)); intro zt zk) | ((with_reducible show wpAny _ _ (binaryOp .Add (Value.bytes _ _) (Value.bytes _ _)) _ _ _); k_dflt (refine addL (by first | (simp only [List.length_map, List.length_append, List.length_cons, List.length_nil, List.length_singleton]; omega) | omega) ?_); intro zt zk) | ((with_reducible show wpAny _ _ (call (Value.builtin "len") _) _ _ _); k_dflt (refine lenL (by first | (simp only [List.length_map, List.length_append, List.length_cons, List.length_nil, List.length_singleton]; omega) | omega) ?_); intro zt zk) | ((with_reducible show wpAny _ _ (inplaceOp .Add (Value.bytes _ _) (Value.bytes _ _)) _ _ _); k_dflt (refine iaddL (by first | (simp only [List.length_map, List.length_append, List.length_cons, List.length_nil, List.length_singleton]; omega) | omega) ?_); intro zt zk) | ((with_reducible show wpAny _ _ (call (Value.builtin "bytes.split") _) _ _ _); k_dflt (refine' call_split ?zzF ?zzN ?zzz ?_; (case zzF => k_asm); (case zzN => k_asm); (case zzz => (simp only [bOf, List.length_map]; omega))); intro zls za zh zk zhls zF zN zhlt; (try k_lt zhlt)) | ((with_reducible show wpAny _ _ (call (Value.builtin "list.append") _) _ _ _); k_dflt (refine' append_L (l := []) ?zzF ?zzN ?zzU ?zzz ?_; (case zzF => k_asm); (case zzN => k_asm); (case zzU => k_updF); (case zzz => omega)); intro zh zF zN; (try dsimp only at zN)) | ((with_reducible show wpAny _ _ (truthy (Value.bytes _ _)) _ _ _); k_dflt (refine truthyL (by (first | (simp only [bOf, List.length_map]; omega) | (simp; omega))) ?_); intro zkt) | ((with_reducible show wpAny _ _ (call (Value.builtin "str.encode") _) _ _ _); k_dflt (refine call_encode2 ?_ ?_ ?_; (case _ => assumption); (case _ => omega)); intro zt1 zk1) | ((with_reducible show wpAny _ _ (getMethod (Value.bytes _ _) (Str.ofString "upper") _) _ _ _); k_dflt (refine getMethod_upper ?_)) | ((with_reducible show wpAny _ _ (getMethod (Value.bytes _ _) (Str.ofString "join") _) _ _ _); k_dflt (refine getMethod_join ?_)) | ((with_reducible show wpAny _ _ (getMethod (Value.bytes _ _) (Str.ofString "split") _) _ _ _); k_dflt (refine getMethod_split ?_)) | ((with_reducible show wpAny _ _ (getMethod (Value.str _ _) (Str.ofString "encode") _) _ _ _); k_dflt (refine getMethod_encode ?_)) | (k_unfold; (try dsimp only)) | walk1 | dsimp only) | fail "no step")
    rename News _ _ _ _ => N9
    obtain ⟨LS2, hLS2, hN2⟩ : ∃ LS2 : List (List UInt8 × Tok), LS2.map (·.1) = bl ++ [[]] ∧ LS2 = LS ++ [([], _)] := ⟨LS ++ [([], _)], by rw [List.map_append, hLS]; rfl, rfl⟩
    rw [← hN2] at N9
    clear hLS hN2 hLn
    rename Fr _ _ _ _ => F9
    obtain ⟨goal, hgoal⟩ : ∃ goal, packL off (bl ++ [[]]) tb [] = goal := ⟨_, rfl⟩
    refine wpAny_mono (Q := PackQ w s gg LL d goal) (E := fun _ _ => False) ?_ ?_ (fun _ _ h => h.elim)
    · refine wpAny_For ?_
      repeat' (first | ((fail_if_success (with_reducible show wpAny _ _ (call (Value.type "enumerate") _) _ _ _)); first | ((with_reducible show wpAny _ _ (subscriptTail (PySem.Expr.Name ..) (PySem.Expr.Slice ..) (Value.ref _) (Value.ref _)) _ _ _); k_dflt (refine' kms_slice_lit ?zzF ?zzN ?zzl ?zzp ?zzq ?zze ?_ ?zzs ?zzt ?zzz; (case zzF => k_asm); (case zzN => k_asm); (case zzl => kmk_list); (case zzp => kmk_part); (case zzq => kmk_part); (case zze => exact kms_fromB _ _); (case zzs => with_unfolding_all rfl); (case zzt => kmk_pure); (case zzz => (simp only [bv, List.size_toArray, List.length_map, sizeLine_eq]; omega))); intro zD zh zF zN zl1; (try k_lt zl1)) | ((with_reducible show wpAny _ _ (call (Value.builtin "_struct.pack") _) _ _ _); k_dflt (first | (refine pack_B (by omega) (by omega) ?_) | (refine pack_H (by omega) (by omega) ?_)); intro zt zk) | ((with_reducible show wpAny _ _ (binaryOp .Add (Value.bytes _ _) (Value.bytes _ _)) _ _ _); k_dflt (refine addL (by first | (simp only [List.length_map, List.length_append, List.length_cons, List.length_nil, List.length_singleton]; omega) | omega) ?_); intro zt zk) | ((with_reducible show wpAny _ _ (call (Value.builtin "len") _) _ _ _); k_dflt (refine lenL (by first | (simp only [List.length_map, List.length_append, List.length_cons, List.length_nil, List.length_singleton]; omega) | omega) ?_); intro zt zk) | ((with_reducible show wpAny _ _ (inplaceOp .Add (Value.bytes _ _) (Value.bytes _ _)) _ _ _); k_dflt (refine iaddL (by first | (simp only [List.length_map, List.length_append, List.length_cons, List.length_nil, List.length_singleton]; omega) | omega) ?_); intro zt zk) | ((with_reducible show wpAny _ _ (call (Value.builtin "bytes.split") _) _ _ _); k_dflt (refine' call_split ?zzF ?zzN ?zzz ?_; (case zzF => k_asm); (case zzN => k_asm); (case zzz => (simp only [bOf, List.length_map]; omega))); intro zls za zh zk zhls zF zN zhlt; (try k_lt zhlt)) | ((with_reducible show wpAny _ _ (call (Value.builtin "list.append") _) _ _ _); k_dflt (refine' append_L (l := []) ?zzF ?zzN ?zzU ?zzz ?_; (case zzF => k_asm); (case zzN => k_asm); (case zzU => k_updF); (case zzz => omega)); intro zh zF zN; (try dsimp only at zN)) | ((with_reducible show wpAny _ _ (truthy (Value.bytes _ _)) _ _ _); k_dflt (refine truthyL (by (first | (simp only [bOf, List.length_map]; omega) | (simp; omega))) ?_); intro zkt) | ((with_reducible show wpAny _ _ (call (Value.builtin "str.encode") _) _ _ _); k_dflt (refine call_encode2 ?_ ?_ ?_; (case _ => assumption); (case _ => omega)); intro zt1 zk1) | ((with_reducible show wpAny _ _ (getMethod (Value.bytes _ _) (Str.ofString "upper") _) _ _ _); k_dflt (refine getMethod_upper ?_)) | ((with_reducible show wpAny _ _ (getMethod (Value.bytes _ _) (Str.ofString "join") _) _ _ _); k_dflt (refine getMethod_join ?_)) | ((with_reducible show wpAny _ _ (getMethod (Value.bytes _ _) (Str.ofString "split") _) _ _ _); k_dflt (refine getMethod_split ?_)) | ((with_reducible show wpAny _ _ (getMethod (Value.str _ _) (Str.ofString "encode") _) _ _ _); k_dflt (refine getMethod_encode ?_)) | (k_unfold; (try dsimp only)) | walk1 | dsimp only) | fail "no step")
      rename Fr _ _ _ _ => F9
      rename News _ _ _ _ => N9
      obtain ⟨lb, elb⟩ := newsName N9
      subst elb
      refine call_enumerate_list (N9.isList (.head _)) fun h1 he hit hsz1 hk1 => ?_
      refine wpAny_pyIter_enum he ?_
      have F1 : Fr gg LL h1 _ := ⟨F9.ns.keeps hk1, fun b o e => hk1 b o (F9.keep b o e), F9.above⟩
      have N1 : News gg LL h1 _ := fun p hp => ⟨hk1 _ _ (N9 p hp).1, (N9 p hp).2⟩
      have z1 := F9.above
      have z2 := F9.ns.lt
      have z3 := Heap.lt_size (N9 _ (.head _)).1
      have z4 := Heap.lt_size (N9 (d, _) (.tail _ (.head _))).1
      dsimp only at z2 z3 z4 he hit hsz1 hk1 ⊢
      generalize hzz : Array.size _ = zz at z2 z3 z4 he hit hsz1 ⊢
      replace z1 : @LE.le Nat _ _ _ := z1
      replace z2 : @LT.lt Nat _ _ _ := z2
      replace z3 : @LT.lt Nat _ _ _ := z3
      replace z4 : @LT.lt Nat _ _ _ := z4
      have z0 : @LT.lt Nat _ zz (zz + 1) := Nat.lt_succ_self _
      have z5 := Nat.lt_succ_of_lt z2
      have z6 := Nat.lt_succ_of_lt z3
      have z7 := Nat.lt_succ_of_lt z4
      have z8 := Nat.le_trans z1 (Nat.le_of_lt z2)
      have z9 := Nat.le_trans z8 (Nat.le_succ _)
      clear hsz1
      refine' for_enum (lo := listOf (bv LS2).toArray (0 + 1)) (items := (bv LS2).toArray) (s := { s with heap := h1, toks := _ }) (L := LL) rfl rfl rfl rfl rfl ?g1 ?g2 ?g3 ?g4 ?g5 ?g6 ?g7 he hit (fun h e => ⟨_, e, rfl, _, rfl⟩) F1 N1 (PackJ w off lb d (listOf (bv LS2).toArray (0 + 1)) (LS2.map (·.1)) goal) ?h0 ?hfx ?turn ?fin
      case g1 => show @Ne Nat _ _; omega
      case g2 => show @Ne Nat _ _; omega
      case g3 => show @Ne Nat _ _; omega
      case g4 => show @Ne Nat LL _; omega
      case g5 => show @Ne Nat LL _; omega
      case g6 => exact Heap.get?_none_of_le (by omega)
      case g7 => exact Heap.get?_none_of_le (by omega)
      case h0 =>
        refine ⟨[], tb, kvs, od, _, _, rfl, rfl, rfl, rfl, rfl, hD, hP, by rw [List.drop_zero, hLS2, hgoal], htb, ?_, by omega⟩
        rw [List.drop_zero, hLS2]; simp; omega
      case hfx =>
        rintro i m news ⟨buf, tbi, kvi, odi, bt, ot, j1, j2, j3, j4, rfl, j5⟩
        refine ⟨.head _, fun p hp => ?_⟩
        have : p.1 = lb ∨ p.1 = d := by simp at hp; rcases hp with rfl | rfl <;> simp
        rcases this with q | q <;> rw [q] <;> constructor <;> (show @Ne Nat _ _) <;> omega
      case turn =>
        rintro i t v m₁ news₁ h tk oe oi hv ⟨buf, tbi, kvi, odi, bt, ot, j1, j2, j3, j4, rfl, j5, j6, j7, j8, j9, j10⟩ F2 N2
        obtain ⟨l, tl, hl1, rfl⟩ := bv_get hv
        clear N1 F1 N9 F9 he hit hzz hk1 hv hD hP z8 z9 z1 z0
        rw [m_at4 j1 j2 j3 j4] at F2
        dsimp only
        clear j1 j2 j3 j4
        have hdr := drop_step (l := LS2.map (·.1)) (i := i) (x := l) (by rw [List.getElem?_map, hl1]; rfl)
        have hln : LS2.length ≤ 2000 := by
          have h3 := congrArg List.length hLS2
          rw [List.length_map, List.length_append] at h3
          rw [h3]
          exact Nat.le_trans (Nat.succ_le_succ (Nat.le_trans (len_le_sum bl) hsm)) (by decide)
        have hq : ((LS2.drop i).map fun p => p.1.length).sum + (LS2.drop i).length * [(46 : UInt8)].length ≤ 16777216 := by
          have h2 := sum_len (LS2.drop i)
          have e : (LS2.drop i).map (·.1) = (LS2.map (·.1)).drop i := List.map_drop ..
          rw [e] at h2
          show _ + _ * 1 ≤ _
          rw [h2]
          exact Nat.le_trans (Nat.le_trans (Nat.le_add_left _ _) j9) (by decide)
        have hkl := keyB_len l ((LS2.map (·.1)).drop (i + 1))
        have hll : l.length ≤ 63 := by
          have h1 : l ∈ bl ++ [[]] := by rw [← hLS2]; exact List.mem_map.mpr ⟨(l, tl), List.mem_of_getElem? hl1, rfl⟩
          rcases List.mem_append.mp h1 with h1 | h1
          · exact hl63 _ h1
          · rw [List.mem_singleton.mp h1]; simp
        rw [← hdr] at hkl
        have hjs : l.length + 1 + (((LS2.map (·.1)).drop (i + 1)).map fun l => l.length + 1).sum + buf.length ≤ 950 := by
          rw [hdr, List.map_cons, List.sum_cons] at j9; rw [Nat.add_comm]; exact j9
        have hb9 : buf.length ≤ 950 := Nat.le_trans (Nat.le_add_left _ _) hjs
        replace hkl := Nat.le_trans hkl (Nat.le_trans (Nat.add_le_add_right (Nat.le_succ _) _) (Nat.le_trans (Nat.le_add_right _ buf.length) hjs))
        have hjk := kp hjs
        have hi2 : i ≤ 2000 := Nat.le_of_lt (Nat.lt_of_lt_of_le (List.getElem?_eq_some_iff.mp hl1).1 hln)
        clear hjs j9
        repeat' (first | ((fail_if_success (with_reducible show wpAny _ _ (call (Value.builtin "bytes.join") _) _ _ _)); first | ((with_reducible show wpAny _ _ (subscriptTail (PySem.Expr.Name ..) (PySem.Expr.Slice ..) (Value.ref _) (Value.ref _)) _ _ _); k_dflt (refine' kms_slice_lit ?zzF ?zzN ?zzl ?zzp ?zzq ?zze ?_ ?zzs ?zzt ?zzz; (case zzF => k_asm); (case zzN => k_asm); (case zzl => kmk_list); (case zzp => kmk_part); (case zzq => kmk_part); (case zze => exact kms_fromB _ _); (case zzs => with_unfolding_all rfl); (case zzt => kmk_pure); (case zzz => (simp only [bv, List.size_toArray, List.length_map, sizeLine_eq]; omega))); intro zD zh zF zN zl1; (try k_lt zl1)) | ((with_reducible show wpAny _ _ (call (Value.builtin "_struct.pack") _) _ _ _); k_dflt (first | (refine pack_B (by omega) (by omega) ?_) | (refine pack_H (by omega) (by omega) ?_)); intro zt zk) | ((with_reducible show wpAny _ _ (binaryOp .Add (Value.bytes _ _) (Value.bytes _ _)) _ _ _); k_dflt (refine addL (by first | (simp only [List.length_map, List.length_append, List.length_cons, List.length_nil, List.length_singleton]; omega) | omega) ?_); intro zt zk) | ((with_reducible show wpAny _ _ (call (Value.builtin "len") _) _ _ _); k_dflt (refine lenL (by first | (simp only [List.length_map, List.length_append, List.length_cons, List.length_nil, List.length_singleton]; omega) | omega) ?_); intro zt zk) | ((with_reducible show wpAny _ _ (inplaceOp .Add (Value.bytes _ _) (Value.bytes _ _)) _ _ _); k_dflt (refine iaddL (by first | (simp only [List.length_map, List.length_append, List.length_cons, List.length_nil, List.length_singleton]; omega) | omega) ?_); intro zt zk) | ((with_reducible show wpAny _ _ (call (Value.builtin "bytes.split") _) _ _ _); k_dflt (refine' call_split ?zzF ?zzN ?zzz ?_; (case zzF => k_asm); (case zzN => k_asm); (case zzz => (simp only [bOf, List.length_map]; omega))); intro zls za zh zk zhls zF zN zhlt; (try k_lt zhlt)) | ((with_reducible show wpAny _ _ (call (Value.builtin "list.append") _) _ _ _); k_dflt (refine' append_L (l := []) ?zzF ?zzN ?zzU ?zzz ?_; (case zzF => k_asm); (case zzN => k_asm); (case zzU => k_updF); (case zzz => omega)); intro zh zF zN; (try dsimp only at zN)) | ((with_reducible show wpAny _ _ (truthy (Value.bytes _ _)) _ _ _); k_dflt (refine truthyL (by (first | (simp only [bOf, List.length_map]; omega) | (simp; omega))) ?_); intro zkt) | ((with_reducible show wpAny _ _ (call (Value.builtin "str.encode") _) _ _ _); k_dflt (refine call_encode2 ?_ ?_ ?_; (case _ => assumption); (case _ => omega)); intro zt1 zk1) | ((with_reducible show wpAny _ _ (getMethod (Value.bytes _ _) (Str.ofString "upper") _) _ _ _); k_dflt (refine getMethod_upper ?_)) | ((with_reducible show wpAny _ _ (getMethod (Value.bytes _ _) (Str.ofString "join") _) _ _ _); k_dflt (refine getMethod_join ?_)) | ((with_reducible show wpAny _ _ (getMethod (Value.bytes _ _) (Str.ofString "split") _) _ _ _); k_dflt (refine getMethod_split ?_)) | ((with_reducible show wpAny _ _ (getMethod (Value.str _ _) (Str.ofString "encode") _) _ _ _); k_dflt (refine getMethod_encode ?_)) | (k_unfold; (try dsimp only)) | walk1 | dsimp only) | fail "no step")
        rename News _ _ _ _ => N3
        refine call_join (sep := [46]) (N3.isList (.head _)) hq fun t3 k3 => ?_
        rw [List.map_drop]
        repeat' (first | ((fail_if_success (with_reducible show wpAny _ _ (call (Value.builtin "bytes.upper") _) _ _ _)); first | ((with_reducible show wpAny _ _ (subscriptTail (PySem.Expr.Name ..) (PySem.Expr.Slice ..) (Value.ref _) (Value.ref _)) _ _ _); k_dflt (refine' kms_slice_lit ?zzF ?zzN ?zzl ?zzp ?zzq ?zze ?_ ?zzs ?zzt ?zzz; (case zzF => k_asm); (case zzN => k_asm); (case zzl => kmk_list); (case zzp => kmk_part); (case zzq => kmk_part); (case zze => exact kms_fromB _ _); (case zzs => with_unfolding_all rfl); (case zzt => kmk_pure); (case zzz => (simp only [bv, List.size_toArray, List.length_map, sizeLine_eq]; omega))); intro zD zh zF zN zl1; (try k_lt zl1)) | ((with_reducible show wpAny _ _ (call (Value.builtin "_struct.pack") _) _ _ _); k_dflt (first | (refine pack_B (by omega) (by omega) ?_) | (refine pack_H (by omega) (by omega) ?_)); intro zt zk) | ((with_reducible show wpAny _ _ (binaryOp .Add (Value.bytes _ _) (Value.bytes _ _)) _ _ _); k_dflt (refine addL (by first | (simp only [List.length_map, List.length_append, List.length_cons, List.length_nil, List.length_singleton]; omega) | omega) ?_); intro zt zk) | ((with_reducible show wpAny _ _ (call (Value.builtin "len") _) _ _ _); k_dflt (refine lenL (by first | (simp only [List.length_map, List.length_append, List.length_cons, List.length_nil, List.length_singleton]; omega) | omega) ?_); intro zt zk) | ((with_reducible show wpAny _ _ (inplaceOp .Add (Value.bytes _ _) (Value.bytes _ _)) _ _ _); k_dflt (refine iaddL (by first | (simp only [List.length_map, List.length_append, List.length_cons, List.length_nil, List.length_singleton]; omega) | omega) ?_); intro zt zk) | ((with_reducible show wpAny _ _ (call (Value.builtin "bytes.split") _) _ _ _); k_dflt (refine' call_split ?zzF ?zzN ?zzz ?_; (case zzF => k_asm); (case zzN => k_asm); (case zzz => (simp only [bOf, List.length_map]; omega))); intro zls za zh zk zhls zF zN zhlt; (try k_lt zhlt)) | ((with_reducible show wpAny _ _ (call (Value.builtin "list.append") _) _ _ _); k_dflt (refine' append_L (l := []) ?zzF ?zzN ?zzU ?zzz ?_; (case zzF => k_asm); (case zzN => k_asm); (case zzU => k_updF); (case zzz => omega)); intro zh zF zN; (try dsimp only at zN)) | ((with_reducible show wpAny _ _ (truthy (Value.bytes _ _)) _ _ _); k_dflt (refine truthyL (by (first | (simp only [bOf, List.length_map]; omega) | (simp; omega))) ?_); intro zkt) | ((with_reducible show wpAny _ _ (call (Value.builtin "str.encode") _) _ _ _); k_dflt (refine call_encode2 ?_ ?_ ?_; (case _ => assumption); (case _ => omega)); intro zt1 zk1) | ((with_reducible show wpAny _ _ (getMethod (Value.bytes _ _) (Str.ofString "upper") _) _ _ _); k_dflt (refine getMethod_upper ?_)) | ((with_reducible show wpAny _ _ (getMethod (Value.bytes _ _) (Str.ofString "join") _) _ _ _); k_dflt (refine getMethod_join ?_)) | ((with_reducible show wpAny _ _ (getMethod (Value.bytes _ _) (Str.ofString "split") _) _ _ _); k_dflt (refine getMethod_split ?_)) | ((with_reducible show wpAny _ _ (getMethod (Value.str _ _) (Str.ofString "encode") _) _ _ _); k_dflt (refine getMethod_encode ?_)) | (k_unfold; (try dsimp only)) | walk1 | dsimp only) | fail "no step")
        refine call_upper (by have := hkl; unfold keyB at this; rw [List.length_map] at this; exact Nat.le_trans this (by decide)) fun t4 k4 => ?_
        rw [show List.map Builtin.Bytes.toUpper (joinL [46] (List.drop i (LS2.map (·.1)))) = keyB (List.drop i (LS2.map (·.1))) from rfl]
        rw [hdr] at j7
        rw [packL] at j7
        rw [← hdr] at j7
        generalize hK : keyB (List.drop i (LS2.map (·.1))) = K at hkl j7 ⊢
        repeat' (first | ((fail_if_success (with_reducible show wpAny _ _ (getMethod (Value.ref _) _ _) _ _ _)); first | ((with_reducible show wpAny _ _ (subscriptTail (PySem.Expr.Name ..) (PySem.Expr.Slice ..) (Value.ref _) (Value.ref _)) _ _ _); k_dflt (refine' kms_slice_lit ?zzF ?zzN ?zzl ?zzp ?zzq ?zze ?_ ?zzs ?zzt ?zzz; (case zzF => k_asm); (case zzN => k_asm); (case zzl => kmk_list); (case zzp => kmk_part); (case zzq => kmk_part); (case zze => exact kms_fromB _ _); (case zzs => with_unfolding_all rfl); (case zzt => kmk_pure); (case zzz => (simp only [bv, List.size_toArray, List.length_map, sizeLine_eq]; omega))); intro zD zh zF zN zl1; (try k_lt zl1)) | ((with_reducible show wpAny _ _ (call (Value.builtin "_struct.pack") _) _ _ _); k_dflt (first | (refine pack_B (by omega) (by omega) ?_) | (refine pack_H (by omega) (by omega) ?_)); intro zt zk) | ((with_reducible show wpAny _ _ (binaryOp .Add (Value.bytes _ _) (Value.bytes _ _)) _ _ _); k_dflt (refine addL (by first | (simp only [List.length_map, List.length_append, List.length_cons, List.length_nil, List.length_singleton]; omega) | omega) ?_); intro zt zk) | ((with_reducible show wpAny _ _ (call (Value.builtin "len") _) _ _ _); k_dflt (refine lenL (by first | (simp only [List.length_map, List.length_append, List.length_cons, List.length_nil, List.length_singleton]; omega) | omega) ?_); intro zt zk) | ((with_reducible show wpAny _ _ (inplaceOp .Add (Value.bytes _ _) (Value.bytes _ _)) _ _ _); k_dflt (refine iaddL (by first | (simp only [List.length_map, List.length_append, List.length_cons, List.length_nil, List.length_singleton]; omega) | omega) ?_); intro zt zk) | ((with_reducible show wpAny _ _ (call (Value.builtin "bytes.split") _) _ _ _); k_dflt (refine' call_split ?zzF ?zzN ?zzz ?_; (case zzF => k_asm); (case zzN => k_asm); (case zzz => (simp only [bOf, List.length_map]; omega))); intro zls za zh zk zhls zF zN zhlt; (try k_lt zhlt)) | ((with_reducible show wpAny _ _ (call (Value.builtin "list.append") _) _ _ _); k_dflt (refine' append_L (l := []) ?zzF ?zzN ?zzU ?zzz ?_; (case zzF => k_asm); (case zzN => k_asm); (case zzU => k_updF); (case zzz => omega)); intro zh zF zN; (try dsimp only at zN)) | ((with_reducible show wpAny _ _ (truthy (Value.bytes _ _)) _ _ _); k_dflt (refine truthyL (by (first | (simp only [bOf, List.length_map]; omega) | (simp; omega))) ?_); intro zkt) | ((with_reducible show wpAny _ _ (call (Value.builtin "str.encode") _) _ _ _); k_dflt (refine call_encode2 ?_ ?_ ?_; (case _ => assumption); (case _ => omega)); intro zt1 zk1) | ((with_reducible show wpAny _ _ (getMethod (Value.bytes _ _) (Str.ofString "upper") _) _ _ _); k_dflt (refine getMethod_upper ?_)) | ((with_reducible show wpAny _ _ (getMethod (Value.bytes _ _) (Str.ofString "join") _) _ _ _); k_dflt (refine getMethod_join ?_)) | ((with_reducible show wpAny _ _ (getMethod (Value.bytes _ _) (Str.ofString "split") _) _ _ _); k_dflt (refine getMethod_split ?_)) | ((with_reducible show wpAny _ _ (getMethod (Value.str _ _) (Str.ofString "encode") _) _ _ _); k_dflt (refine getMethod_encode ?_)) | (k_unfold; (try dsimp only)) | walk1 | dsimp only) | fail "no step")
        rename News _ _ _ _ => N4
        refine kdg_method (knd := bytesKind PR w) N4 (.tail _ (.tail _ (.tail _ (.tail _ (.head _))))) j5 ?_
        repeat' (first | ((fail_if_success (with_reducible show wpAny _ _ (call (Value.builtin "dict.get") _) _ _ _)); first | ((with_reducible show wpAny _ _ (subscriptTail (PySem.Expr.Name ..) (PySem.Expr.Slice ..) (Value.ref _) (Value.ref _)) _ _ _); k_dflt (refine' kms_slice_lit ?zzF ?zzN ?zzl ?zzp ?zzq ?zze ?_ ?zzs ?zzt ?zzz; (case zzF => k_asm); (case zzN => k_asm); (case zzl => kmk_list); (case zzp => kmk_part); (case zzq => kmk_part); (case zze => exact kms_fromB _ _); (case zzs => with_unfolding_all rfl); (case zzt => kmk_pure); (case zzz => (simp only [bv, List.size_toArray, List.length_map, sizeLine_eq]; omega))); intro zD zh zF zN zl1; (try k_lt zl1)) | ((with_reducible show wpAny _ _ (call (Value.builtin "_struct.pack") _) _ _ _); k_dflt (first | (refine pack_B (by omega) (by omega) ?_) | (refine pack_H (by omega) (by omega) ?_)); intro zt zk) | ((with_reducible show wpAny _ _ (binaryOp .Add (Value.bytes _ _) (Value.bytes _ _)) _ _ _); k_dflt (refine addL (by first | (simp only [List.length_map, List.length_append, List.length_cons, List.length_nil, List.length_singleton]; omega) | omega) ?_); intro zt zk) | ((with_reducible show wpAny _ _ (call (Value.builtin "len") _) _ _ _); k_dflt (refine lenL (by first | (simp only [List.length_map, List.length_append, List.length_cons, List.length_nil, List.length_singleton]; omega) | omega) ?_); intro zt zk) | ((with_reducible show wpAny _ _ (inplaceOp .Add (Value.bytes _ _) (Value.bytes _ _)) _ _ _); k_dflt (refine iaddL (by first | (simp only [List.length_map, List.length_append, List.length_cons, List.length_nil, List.length_singleton]; omega) | omega) ?_); intro zt zk) | ((with_reducible show wpAny _ _ (call (Value.builtin "bytes.split") _) _ _ _); k_dflt (refine' call_split ?zzF ?zzN ?zzz ?_; (case zzF => k_asm); (case zzN => k_asm); (case zzz => (simp only [bOf, List.length_map]; omega))); intro zls za zh zk zhls zF zN zhlt; (try k_lt zhlt)) | ((with_reducible show wpAny _ _ (call (Value.builtin "list.append") _) _ _ _); k_dflt (refine' append_L (l := []) ?zzF ?zzN ?zzU ?zzz ?_; (case zzF => k_asm); (case zzN => k_asm); (case zzU => k_updF); (case zzz => omega)); intro zh zF zN; (try dsimp only at zN)) | ((with_reducible show wpAny _ _ (truthy (Value.bytes _ _)) _ _ _); k_dflt (refine truthyL (by (first | (simp only [bOf, List.length_map]; omega) | (simp; omega))) ?_); intro zkt) | ((with_reducible show wpAny _ _ (call (Value.builtin "str.encode") _) _ _ _); k_dflt (refine call_encode2 ?_ ?_ ?_; (case _ => assumption); (case _ => omega)); intro zt1 zk1) | ((with_reducible show wpAny _ _ (getMethod (Value.bytes _ _) (Str.ofString "upper") _) _ _ _); k_dflt (refine getMethod_upper ?_)) | ((with_reducible show wpAny _ _ (getMethod (Value.bytes _ _) (Str.ofString "join") _) _ _ _); k_dflt (refine getMethod_join ?_)) | ((with_reducible show wpAny _ _ (getMethod (Value.bytes _ _) (Str.ofString "split") _) _ _ _); k_dflt (refine getMethod_split ?_)) | ((with_reducible show wpAny _ _ (getMethod (Value.str _ _) (Str.ofString "encode") _) _ _ _); k_dflt (refine getMethod_encode ?_)) | (k_unfold; (try dsimp only)) | walk1 | dsimp only) | fail "no step")
        have hkz : kvi.length ≤ sizeLine := by rw [j6.length, sizeLine_eq]; exact Nat.le_trans j10 (Nat.le_trans (Nat.add_le_add_left hi2 1000) (by decide))
        rcases j6.look K with ⟨q1, q2⟩ | ⟨p, tp, q1, q2, q3⟩
        · rw [q2] at j7
          dsimp only at j7
          refine kdg_get1 (knd := bytesKind PR w) N4 (.tail _ (.tail _ (.tail _ (.tail _ (.head _))))) j5 hds (by simp [bytesKind, isBytes]) none q1 ?_
          dsimp only [Option.getD]
          repeat' (first | ((fail_if_success (with_reducible show wpAny _ _ (setItem _ _ _) _ _ _)); (fail_if_success (with_reducible show Turned ..)); first | ((with_reducible show wpAny _ _ (subscriptTail (PySem.Expr.Name ..) (PySem.Expr.Slice ..) (Value.ref _) (Value.ref _)) _ _ _); k_dflt (refine' kms_slice_lit ?zzF ?zzN ?zzl ?zzp ?zzq ?zze ?_ ?zzs ?zzt ?zzz; (case zzF => k_asm); (case zzN => k_asm); (case zzl => kmk_list); (case zzp => kmk_part); (case zzq => kmk_part); (case zze => exact kms_fromB _ _); (case zzs => with_unfolding_all rfl); (case zzt => kmk_pure); (case zzz => (simp only [bv, List.size_toArray, List.length_map, sizeLine_eq]; omega))); intro zD zh zF zN zl1; (try k_lt zl1)) | ((with_reducible show wpAny _ _ (call (Value.builtin "_struct.pack") _) _ _ _); k_dflt (first | (refine pack_B (by omega) (by omega) ?_) | (refine pack_H (by omega) (by omega) ?_)); intro zt zk) | ((with_reducible show wpAny _ _ (binaryOp .Add (Value.bytes _ _) (Value.bytes _ _)) _ _ _); k_dflt (refine addL (by first | (simp only [List.length_map, List.length_append, List.length_cons, List.length_nil, List.length_singleton]; omega) | omega) ?_); intro zt zk) | ((with_reducible show wpAny _ _ (call (Value.builtin "len") _) _ _ _); k_dflt (refine lenL (by first | (simp only [List.length_map, List.length_append, List.length_cons, List.length_nil, List.length_singleton]; omega) | omega) ?_); intro zt zk) | ((with_reducible show wpAny _ _ (inplaceOp .Add (Value.bytes _ _) (Value.bytes _ _)) _ _ _); k_dflt (refine iaddL (by first | (simp only [List.length_map, List.length_append, List.length_cons, List.length_nil, List.length_singleton]; omega) | omega) ?_); intro zt zk) | ((with_reducible show wpAny _ _ (call (Value.builtin "bytes.split") _) _ _ _); k_dflt (refine' call_split ?zzF ?zzN ?zzz ?_; (case zzF => k_asm); (case zzN => k_asm); (case zzz => (simp only [bOf, List.length_map]; omega))); intro zls za zh zk zhls zF zN zhlt; (try k_lt zhlt)) | ((with_reducible show wpAny _ _ (call (Value.builtin "list.append") _) _ _ _); k_dflt (refine' append_L (l := []) ?zzF ?zzN ?zzU ?zzz ?_; (case zzF => k_asm); (case zzN => k_asm); (case zzU => k_updF); (case zzz => omega)); intro zh zF zN; (try dsimp only at zN)) | ((with_reducible show wpAny _ _ (truthy (Value.bytes _ _)) _ _ _); k_dflt (refine truthyL (by (first | (simp only [bOf, List.length_map]; omega) | (simp; omega))) ?_); intro zkt) | ((with_reducible show wpAny _ _ (call (Value.builtin "str.encode") _) _ _ _); k_dflt (refine call_encode2 ?_ ?_ ?_; (case _ => assumption); (case _ => omega)); intro zt1 zk1) | ((with_reducible show wpAny _ _ (getMethod (Value.bytes _ _) (Str.ofString "upper") _) _ _ _); k_dflt (refine getMethod_upper ?_)) | ((with_reducible show wpAny _ _ (getMethod (Value.bytes _ _) (Str.ofString "join") _) _ _ _); k_dflt (refine getMethod_join ?_)) | ((with_reducible show wpAny _ _ (getMethod (Value.bytes _ _) (Str.ofString "split") _) _ _ _); k_dflt (refine getMethod_split ?_)) | ((with_reducible show wpAny _ _ (getMethod (Value.str _ _) (Str.ofString "encode") _) _ _ _); k_dflt (refine getMethod_encode ?_)) | (k_unfold; (try dsimp only)) | walk1 | dsimp only) | fail "no step")
          · rename Fr _ _ _ _ => F5
            rename News _ _ _ _ => N5
            refine kda_set (knd := bytesKind PR w) F5 N5 (by k_updF) j5 (k := K) (by simp [bytesKind, isBytes]) hkz fun h6 o6 F6 N6 hd6 => ?_
            rw [stored_new q1] at hd6
            try dsimp only at N6
            clear F5 N5
            repeat' (first | ((fail_if_success (with_reducible show Turned ..)); first | ((with_reducible show wpAny _ _ (subscriptTail (PySem.Expr.Name ..) (PySem.Expr.Slice ..) (Value.ref _) (Value.ref _)) _ _ _); k_dflt (refine' kms_slice_lit ?zzF ?zzN ?zzl ?zzp ?zzq ?zze ?_ ?zzs ?zzt ?zzz; (case zzF => k_asm); (case zzN => k_asm); (case zzl => kmk_list); (case zzp => kmk_part); (case zzq => kmk_part); (case zze => exact kms_fromB _ _); (case zzs => with_unfolding_all rfl); (case zzt => kmk_pure); (case zzz => (simp only [bv, List.size_toArray, List.length_map, sizeLine_eq]; omega))); intro zD zh zF zN zl1; (try k_lt zl1)) | ((with_reducible show wpAny _ _ (call (Value.builtin "_struct.pack") _) _ _ _); k_dflt (first | (refine pack_B (by omega) (by omega) ?_) | (refine pack_H (by omega) (by omega) ?_)); intro zt zk) | ((with_reducible show wpAny _ _ (binaryOp .Add (Value.bytes _ _) (Value.bytes _ _)) _ _ _); k_dflt (refine addL (by first | (simp only [List.length_map, List.length_append, List.length_cons, List.length_nil, List.length_singleton]; omega) | omega) ?_); intro zt zk) | ((with_reducible show wpAny _ _ (call (Value.builtin "len") _) _ _ _); k_dflt (refine lenL (by first | (simp only [List.length_map, List.length_append, List.length_cons, List.length_nil, List.length_singleton]; omega) | omega) ?_); intro zt zk) | ((with_reducible show wpAny _ _ (inplaceOp .Add (Value.bytes _ _) (Value.bytes _ _)) _ _ _); k_dflt (refine iaddL (by first | (simp only [List.length_map, List.length_append, List.length_cons, List.length_nil, List.length_singleton]; omega) | omega) ?_); intro zt zk) | ((with_reducible show wpAny _ _ (call (Value.builtin "bytes.split") _) _ _ _); k_dflt (refine' call_split ?zzF ?zzN ?zzz ?_; (case zzF => k_asm); (case zzN => k_asm); (case zzz => (simp only [bOf, List.length_map]; omega))); intro zls za zh zk zhls zF zN zhlt; (try k_lt zhlt)) | ((with_reducible show wpAny _ _ (call (Value.builtin "list.append") _) _ _ _); k_dflt (refine' append_L (l := []) ?zzF ?zzN ?zzU ?zzz ?_; (case zzF => k_asm); (case zzN => k_asm); (case zzU => k_updF); (case zzz => omega)); intro zh zF zN; (try dsimp only at zN)) | ((with_reducible show wpAny _ _ (truthy (Value.bytes _ _)) _ _ _); k_dflt (refine truthyL (by (first | (simp only [bOf, List.length_map]; omega) | (simp; omega))) ?_); intro zkt) | ((with_reducible show wpAny _ _ (call (Value.builtin "str.encode") _) _ _ _); k_dflt (refine call_encode2 ?_ ?_ ?_; (case _ => assumption); (case _ => omega)); intro zt1 zk1) | ((with_reducible show wpAny _ _ (getMethod (Value.bytes _ _) (Str.ofString "upper") _) _ _ _); k_dflt (refine getMethod_upper ?_)) | ((with_reducible show wpAny _ _ (getMethod (Value.bytes _ _) (Str.ofString "join") _) _ _ _); k_dflt (refine getMethod_join ?_)) | ((with_reducible show wpAny _ _ (getMethod (Value.bytes _ _) (Str.ofString "split") _) _ _ _); k_dflt (refine getMethod_split ?_)) | ((with_reducible show wpAny _ _ (getMethod (Value.str _ _) (Str.ofString "encode") _) _ _ _); k_dflt (refine getMethod_encode ?_)) | (k_unfold; (try dsimp only)) | walk1 | dsimp only) | fail "no step")
            rename Fr _ _ _ _ => F9
            rename News _ _ _ _ => N9
            refine ⟨_, _, _, [(lb, listOf (bv LS2).toArray (0 + 1)), (d, o6)], rfl, F9, News.sub N9 (by intro p hp; simp at hp; rcases hp with rfl | rfl | rfl | rfl <;> simp), buf ++ ([(l.length : Int).toNat.toUInt8] ++ l), tbi ++ [(K, off + buf.length)], kvi ++ [(K, .int ((off + buf.length : Nat) : Int) _)], o6, _, _, rfl, rfl, rfl, rfl, rfl, hd6, j6.snoc K (off + buf.length) _, ?_, ?_, ?_, ?_⟩
            · rw [← j7, if_pos (Int.ofNat_lt.mp (by assumption))]
              simp
            · intro e he
              rcases List.mem_append.mp he with he | he
              · exact j8 e he
              · rw [List.mem_singleton.mp he]; dsimp only; omega
            · rw [List.length_append, List.length_append, List.length_singleton]; exact shuf950 hjk
            · rw [List.length_append]; exact Nat.succ_le_succ j10
          · skip
            rename Fr _ _ _ _ => F9
            rename News _ _ _ _ => N9
            refine ⟨_, _, _, [(lb, listOf (bv LS2).toArray (0 + 1)), (d, odi)], rfl, F9, News.sub N9 (by intro p hp; simp at hp; rcases hp with rfl | rfl | rfl | rfl <;> simp), buf ++ ([(l.length : Int).toNat.toUInt8] ++ l), tbi, kvi, odi, _, _, rfl, rfl, rfl, rfl, rfl, j5, j6, ?_, ?_, ?_, ?_⟩
            · rw [← j7, if_neg (by omega)]
              simp
            · intro e he
              exact j8 e he
            · rw [List.length_append, List.length_append, List.length_singleton]; exact shuf950 hjk
            · exact Nat.le_trans j10 (Nat.le_succ _)
        · rw [q2] at j7
          dsimp only at j7
          have hp := j8 _ q3
          refine kdg_get1 (knd := bytesKind PR w) N4 (.tail _ (.tail _ (.tail _ (.tail _ (.head _))))) j5 hds (by simp [bytesKind, isBytes]) (some _) q1 ?_
          dsimp only [Option.getD]
          repeat' (first | ((fail_if_success (with_reducible show wpAny _ _ (call (Value.builtin "_struct.pack") _) _ _ _)); first | ((with_reducible show wpAny _ _ (subscriptTail (PySem.Expr.Name ..) (PySem.Expr.Slice ..) (Value.ref _) (Value.ref _)) _ _ _); k_dflt (refine' kms_slice_lit ?zzF ?zzN ?zzl ?zzp ?zzq ?zze ?_ ?zzs ?zzt ?zzz; (case zzF => k_asm); (case zzN => k_asm); (case zzl => kmk_list); (case zzp => kmk_part); (case zzq => kmk_part); (case zze => exact kms_fromB _ _); (case zzs => with_unfolding_all rfl); (case zzt => kmk_pure); (case zzz => (simp only [bv, List.size_toArray, List.length_map, sizeLine_eq]; omega))); intro zD zh zF zN zl1; (try k_lt zl1)) | ((with_reducible show wpAny _ _ (call (Value.builtin "_struct.pack") _) _ _ _); k_dflt (first | (refine pack_B (by omega) (by omega) ?_) | (refine pack_H (by omega) (by omega) ?_)); intro zt zk) | ((with_reducible show wpAny _ _ (binaryOp .Add (Value.bytes _ _) (Value.bytes _ _)) _ _ _); k_dflt (refine addL (by first | (simp only [List.length_map, List.length_append, List.length_cons, List.length_nil, List.length_singleton]; omega) | omega) ?_); intro zt zk) | ((with_reducible show wpAny _ _ (call (Value.builtin "len") _) _ _ _); k_dflt (refine lenL (by first | (simp only [List.length_map, List.length_append, List.length_cons, List.length_nil, List.length_singleton]; omega) | omega) ?_); intro zt zk) | ((with_reducible show wpAny _ _ (inplaceOp .Add (Value.bytes _ _) (Value.bytes _ _)) _ _ _); k_dflt (refine iaddL (by first | (simp only [List.length_map, List.length_append, List.length_cons, List.length_nil, List.length_singleton]; omega) | omega) ?_); intro zt zk) | ((with_reducible show wpAny _ _ (call (Value.builtin "bytes.split") _) _ _ _); k_dflt (refine' call_split ?zzF ?zzN ?zzz ?_; (case zzF => k_asm); (case zzN => k_asm); (case zzz => (simp only [bOf, List.length_map]; omega))); intro zls za zh zk zhls zF zN zhlt; (try k_lt zhlt)) | ((with_reducible show wpAny _ _ (call (Value.builtin "list.append") _) _ _ _); k_dflt (refine' append_L (l := []) ?zzF ?zzN ?zzU ?zzz ?_; (case zzF => k_asm); (case zzN => k_asm); (case zzU => k_updF); (case zzz => omega)); intro zh zF zN; (try dsimp only at zN)) | ((with_reducible show wpAny _ _ (truthy (Value.bytes _ _)) _ _ _); k_dflt (refine truthyL (by (first | (simp only [bOf, List.length_map]; omega) | (simp; omega))) ?_); intro zkt) | ((with_reducible show wpAny _ _ (call (Value.builtin "str.encode") _) _ _ _); k_dflt (refine call_encode2 ?_ ?_ ?_; (case _ => assumption); (case _ => omega)); intro zt1 zk1) | ((with_reducible show wpAny _ _ (getMethod (Value.bytes _ _) (Str.ofString "upper") _) _ _ _); k_dflt (refine getMethod_upper ?_)) | ((with_reducible show wpAny _ _ (getMethod (Value.bytes _ _) (Str.ofString "join") _) _ _ _); k_dflt (refine getMethod_join ?_)) | ((with_reducible show wpAny _ _ (getMethod (Value.bytes _ _) (Str.ofString "split") _) _ _ _); k_dflt (refine getMethod_split ?_)) | ((with_reducible show wpAny _ _ (getMethod (Value.str _ _) (Str.ofString "encode") _) _ _ _); k_dflt (refine getMethod_encode ?_)) | (k_unfold; (try dsimp only)) | walk1 | dsimp only) | fail "no step")
          rw [or_ptrI hp]
          repeat' (first | ((fail_if_success (with_reducible show Turned ..)); first | ((with_reducible show wpAny _ _ (subscriptTail (PySem.Expr.Name ..) (PySem.Expr.Slice ..) (Value.ref _) (Value.ref _)) _ _ _); k_dflt (refine' kms_slice_lit ?zzF ?zzN ?zzl ?zzp ?zzq ?zze ?_ ?zzs ?zzt ?zzz; (case zzF => k_asm); (case zzN => k_asm); (case zzl => kmk_list); (case zzp => kmk_part); (case zzq => kmk_part); (case zze => exact kms_fromB _ _); (case zzs => with_unfolding_all rfl); (case zzt => kmk_pure); (case zzz => (simp only [bv, List.size_toArray, List.length_map, sizeLine_eq]; omega))); intro zD zh zF zN zl1; (try k_lt zl1)) | ((with_reducible show wpAny _ _ (call (Value.builtin "_struct.pack") _) _ _ _); k_dflt (first | (refine pack_B (by omega) (by omega) ?_) | (refine pack_H (by omega) (by omega) ?_)); intro zt zk) | ((with_reducible show wpAny _ _ (binaryOp .Add (Value.bytes _ _) (Value.bytes _ _)) _ _ _); k_dflt (refine addL (by first | (simp only [List.length_map, List.length_append, List.length_cons, List.length_nil, List.length_singleton]; omega) | omega) ?_); intro zt zk) | ((with_reducible show wpAny _ _ (call (Value.builtin "len") _) _ _ _); k_dflt (refine lenL (by first | (simp only [List.length_map, List.length_append, List.length_cons, List.length_nil, List.length_singleton]; omega) | omega) ?_); intro zt zk) | ((with_reducible show wpAny _ _ (inplaceOp .Add (Value.bytes _ _) (Value.bytes _ _)) _ _ _); k_dflt (refine iaddL (by first | (simp only [List.length_map, List.length_append, List.length_cons, List.length_nil, List.length_singleton]; omega) | omega) ?_); intro zt zk) | ((with_reducible show wpAny _ _ (call (Value.builtin "bytes.split") _) _ _ _); k_dflt (refine' call_split ?zzF ?zzN ?zzz ?_; (case zzF => k_asm); (case zzN => k_asm); (case zzz => (simp only [bOf, List.length_map]; omega))); intro zls za zh zk zhls zF zN zhlt; (try k_lt zhlt)) | ((with_reducible show wpAny _ _ (call (Value.builtin "list.append") _) _ _ _); k_dflt (refine' append_L (l := []) ?zzF ?zzN ?zzU ?zzz ?_; (case zzF => k_asm); (case zzN => k_asm); (case zzU => k_updF); (case zzz => omega)); intro zh zF zN; (try dsimp only at zN)) | ((with_reducible show wpAny _ _ (truthy (Value.bytes _ _)) _ _ _); k_dflt (refine truthyL (by (first | (simp only [bOf, List.length_map]; omega) | (simp; omega))) ?_); intro zkt) | ((with_reducible show wpAny _ _ (call (Value.builtin "str.encode") _) _ _ _); k_dflt (refine call_encode2 ?_ ?_ ?_; (case _ => assumption); (case _ => omega)); intro zt1 zk1) | ((with_reducible show wpAny _ _ (getMethod (Value.bytes _ _) (Str.ofString "upper") _) _ _ _); k_dflt (refine getMethod_upper ?_)) | ((with_reducible show wpAny _ _ (getMethod (Value.bytes _ _) (Str.ofString "join") _) _ _ _); k_dflt (refine getMethod_join ?_)) | ((with_reducible show wpAny _ _ (getMethod (Value.bytes _ _) (Str.ofString "split") _) _ _ _); k_dflt (refine getMethod_split ?_)) | ((with_reducible show wpAny _ _ (getMethod (Value.str _ _) (Str.ofString "encode") _) _ _ _); k_dflt (refine getMethod_encode ?_)) | (k_unfold; (try dsimp only)) | walk1 | dsimp only) | fail "no step")
          rename Fr _ _ _ _ => F9
          rename News _ _ _ _ => N9
          refine ⟨rfl, _, _, _, _, tbi, kvi, odi, _, rfl, F9, News.sub N9 (by intro p hp; simp at hp; rcases hp with rfl; simp), rfl, j5, j6, ?_⟩
          rw [← j7]
          simp only [Int.toNat_natCast]
      case fin =>
        rintro m₁ news₁ h tk ⟨buf, tbi, kvi, odi, bt, ot, j1, j2, j3, j4, rfl, j5, j6, j7, j8, j9, j10⟩ F2 N2
        rw [List.drop_of_length_le (by simp [bv])] at j7
        refine wpAny_execs_nil ⟨rfl, h, tk, m₁, buf, tbi, kvi, odi, bt, rfl, F2, News.sub N2 (by simp), j1, j5, j6, j7.symm⟩
    · rintro f s' ⟨rfl, h, tk, m', buf', tb', kvs', od', bt, rfl, F7, N7, hb, hd7, hp7, hg7⟩
      dsimp only
      have hmb : m' = fun y => if y = Str.ofString "buf" then some (.bytes (List.toArray buf') bt) else m' y := by
        funext y
        split
        · subst y; exact hb
        · rfl
      rw [hmb] at F7
      clear F9 N9 hmb hb
      k_steps
      rename Fr _ _ _ _ => F9
      rename News _ _ _ _ => N9
      rename GSub _ _ _ => G9
      exact hret' _ _ _ _ _ _ _ (hgoal.trans hg7) hp7 (Kept.of G9 F9) (N9 (d, _) (.head _)).1 hd7
end Mine
end
section
open PySem PySem.W PyProof.Rows PyProof.Rows.LCg
set_option maxRecDepth 100000
namespace Mine
set_option linter.unusedVariables false
theorem pick_ij (b : List UInt8) {x y : Int} (i j : Nat) (hx : x = i) (hy : y = j) : KBy.picked b.toArray (some x) (some y) = ((b.drop i).take (j - i)).toArray := by
  subst hx hy
  rw [KBc.picked_eq]
  simp only [Option.elim, clipAt_nat, List.size_toArray]
  congr 1
  by_cases h : i ≤ b.length
  · rw [Nat.min_eq_left h]
    by_cases h2 : j ≤ b.length
    · rw [Nat.min_eq_left h2]
    · rw [Nat.min_eq_right (by omega), List.take_of_length_le (by simp), List.take_of_length_le (by simp; omega)]
  · rw [List.drop_of_length_le (i := min i b.length) (by omega), List.drop_of_length_le (i := i) (by omega)]; simp
theorem pick_j (b : List UInt8) {y : Int} (j : Nat) (hy : y = j) : KBy.picked b.toArray none (some y) = (b.take j).toArray := by
  subst hy
  rw [KBc.picked_eq]
  simp only [Option.elim, clipAt_nat, List.size_toArray, List.drop_zero, Nat.sub_zero]
  congr 1
  by_cases h2 : j ≤ b.length
  · rw [Nat.min_eq_left h2]
  · rw [Nat.min_eq_right (by omega), List.take_of_length_le (by simp), List.take_of_length_le (by omega)]
section
variable {prog : Program} {w : World} {A : Around} {E : Value → Shared → Prop} {s : Shared} {h₀ : Heap} {L : Addr} {m : Str → Option Value} {news : List (Addr × Obj)}
theorem sliceL {value slice : PySem.Expr} {b c : List UInt8} {t : Tok} {l u : Value} {lo hi : Option Int} {Q : Value → Shared → Prop} (hF : Fr h₀ L s.heap m) (hN : News h₀ L s.heap news) (hl : IsPart l lo) (hu : IsPart u hi) (hp : KBy.picked b.toArray lo hi = c.toArray) (hz : b.length ≤ 16777216)
    (h : ∀ h' t' k, Fr h₀ L h' m → News h₀ L h' news → Q (.bytes c.toArray t') { s with heap := h', toks := k })
    (hs : subscripted slice false (.bytes b.toArray t) (.ref s.heap.objs.size) = operate [.ref s.heap.objs.size, .bytes b.toArray t] (getItem (.bytes b.toArray t) (.ref s.heap.objs.size)))
    (ht : ∀ r, letTemporaryGo value (.bytes b.toArray t) r = pure ()) :
    wpAny (model prog w) A (subscriptTail value slice (.bytes b.toArray t) (.ref s.heap.objs.size)) Q E { s with heap := s.heap.push { cls := .type "slice", data := .fields #[l, u, .none] } } :=
  KBc.slice_K hF hN rfl hl hu (by rw [KBw.ints_length]; simpa using hz) (fun h' t' k F' N' _ => by rw [hp]; exact h h' t' k F' N') hs ht
end
theorem and_c0 {n : Nat} (h : n < 256) : Builtin.bitAnd (n : Int) 192 = ((n / 64 * 64 : Nat) : Int) := by
  have key : ∀ n : Fin 256, Builtin.bitAnd ((n.val : Nat) : Int) 192 = ((n.val / 64 * 64 : Nat) : Int) := by decide +kernel
  exact key ⟨n, h⟩
theorem and_14 (n : Nat) : Builtin.bitAnd (n : Int) 16383 = ((n % 16384 : Nat) : Int) := by
  rw [bitAnd_pp (by omega) (by decide)]
  show ((n &&& 16383 : Nat) : Int) = _
  have h : n &&& 16383 = n % 16384 := Nat.and_two_pow_sub_one_eq_mod n 14
  rw [h]
end Mine
end
section
namespace Mine
/-- how the reading of a name ends -/
inductive UR
  | done (name : List (List UInt8)) (behind : Nat)
  | need
  | refused
/-- the reading of a name: octets; height; place, begin of the run, place behind, length so far, labels so far; end -/
inductive Unp (buf : List UInt8) : Nat → Nat → Nat → Nat → Nat → List (List UInt8) → UR → Prop
  | need {h off start saved nl name} : buf.length ≤ off → Unp buf h off start saved nl name .need
  | zero {h off start saved nl name} : off < buf.length → buf.getD off 0 = 0 → Unp buf h off start saved nl name (.done name (if saved = 0 then off + 1 else saved))
  | ptr {h off start saved nl name r} {b c : UInt8} (p : Nat) : off + 1 < buf.length → buf.getD off 0 = b → buf.getD (off + 1) 0 = c → 192 ≤ b.toNat → p = (b.toNat * 256 + c.toNat) % 16384 → p < start →
      Unp buf h p p (if saved = 0 then off + 2 else saved) nl name r → Unp buf (h + 1) off start saved nl name r
  | ptrBad {h off start saved nl name} {b c : UInt8} : off + 1 < buf.length → buf.getD off 0 = b → buf.getD (off + 1) 0 = c → 192 ≤ b.toNat → start ≤ (b.toNat * 256 + c.toNat) % 16384 → Unp buf h off start saved nl name .refused
  | lab {h off start saved nl name r} (n : Nat) : off < buf.length → (buf.getD off 0).toNat = n → 0 < n → n < 64 → nl + (n + 1) ≤ 255 →
      Unp buf h (off + 1 + n) start saved (nl + (n + 1)) (name ++ [(buf.drop (off + 1)).take n]) r → Unp buf (h + 1) off start saved nl name r
  | long {h off start saved nl name} (n : Nat) : off < buf.length → (buf.getD off 0).toNat = n → 0 < n → n < 64 → 255 < nl + (n + 1) → Unp buf h off start saved nl name .refused
  | bad {h off start saved nl name} : off < buf.length → (buf.getD off 0).toNat = 64 ∨ (buf.getD off 0).toNat = 128 → Unp buf h off start saved nl name .refused
end Mine
end
section
open PySem PySem.W PyProof.Rows PyProof.Rows.LCg
namespace Mine
set_option linter.unusedVariables false
set_option maxRecDepth 100000 in
set_option maxHeartbeats 4000000 in
theorem compat_call {w : World} {mean : ExcName → Option Value} {mg mb : Str → Option Value} {dp un : Nat} {gd : Option (List Code)} {cn : Str} {cs : Scope} {a : Addr} {ccd : Value} {cl : List (Str × Addr)} {outer : List Env} {A₀ : Around} {base h₀ : Heap} {L : Addr}
    {m : Str → Option Value} {s : Shared} {Q E : Value → Shared → Prop} {k : Int} {tk : Tok} {news : List (Addr × Obj)}
    (B : Below A₀ base outer h₀) (F : Fr h₀ L s.heap m) (X : (Mine.hd.heap_39 w.params).In h₀) (N : News h₀ L s.heap news) (T : Top VW LW mean mg mb h₀) (hk : cs.kind = .function)
    (hd : dp + 1 < recursionLimit) (hu : un + 8 < cLine)
    (hret : ∀ u h' tk', Fr h₀ L h' m → News h₀ L h' news → Q (.int k u) { s with heap := h', toks := tk' }) :
    wpAny (model PR w) (ktrTop dp un gd cn cs L a ccd cl outer) (call (.ref 49) [.int k tk]) Q E s := by
  have hret' : ∀ u h' tk', Kept [] s.heap h' → Q (.int k u) { s with heap := h', toks := tk' } := by
    intro u h' tk' a6
    refine hret u h' tk' ⟨F.ns.at' fun o e => a6 _ _ e (by simp), fun b o e => a6 _ _ (F.keep b o e) (by simp), F.above⟩ fun p hp => ⟨a6 _ _ (N p hp).1 (by simp), (N p hp).2⟩
  replace N : News h₀ L s.heap [] := News.nil
  clear hret
  refine wpAny_call ?_
  k_dflt (first   | (refine' code_defR ?zzk1 ?zzk2 ?zzk3 ?zzk4 ?zzk5 ?zzkA ?zzkF ?zzkK ?zzk6 ?zzk7 ?zzk8 ?zzk9 ?zzkB ?_ ?zzc2 ?zzc3 ?zzc4 ?zzc5; (case zzkA => exact rfl); (case zzkF => exact rfl); (case zzkK => assumption); (case zzk1 => k_asm); (case zzk2 => k_asm); (case zzk3 => k_asm); (case zzk4 => k_asm); (case zzk5 => k_asm); (case zzk6 => k_is); (case zzk7 => k_is); (case zzk8 => ktr_room); (case zzk9 => exact BindsTo.of_eq rfl); (case zzc5 => decide); (case zzkB => exact locs rfl); (case zzc2 => exact rfl); (case zzc3 => exact rfl); (case zzc4 => exact rfl); k_whole; intro zg zL zh zG zlL zF zN zB zX zT; (try dsimp only); (try k_lift zB); (try k_fold)))
  clear N F
  k_steps
  all_goals (rename GSub _ _ _ => G9; rename Fr _ _ _ _ => F9)
  exact hret' _ _ _ (Kept.of G9 F9)
end Mine
end
section
open PySem PySem.W PyProof.Rows PyProof.Rows.LCg
namespace Mine
set_option linter.unusedVariables false
theorem two_of {buf : List UInt8} {off : Nat} {b c : UInt8} (h : off + 1 < buf.length) (hb : buf.getD off 0 = b) (hc : buf.getD (off + 1) 0 = c) : (buf.drop off).take 2 = [b, c] := by
  rw [List.drop_eq_getElem_cons (by omega), List.drop_eq_getElem_cons h]
  simp only [List.take_succ_cons, List.take_zero]
  rw [List.getD_eq_getElem?_getD, List.getElem?_eq_getElem (by omega), Option.getD_some] at hb
  rw [List.getD_eq_getElem?_getD, List.getElem?_eq_getElem h, Option.getD_some] at hc
  rw [hb, hc]
theorem m_at6 {m : Str → Option Value} {x1 x2 x3 x4 x5 x6 : Str} {v1 v2 v3 v4 v5 v6 : Value} (h1 : m x1 = some v1) (h2 : m x2 = some v2) (h3 : m x3 = some v3) (h4 : m x4 = some v4) (h5 : m x5 = some v5) (h6 : m x6 = some v6) :
    m = fun y => if y = x1 then some v1 else if y = x2 then some v2 else if y = x3 then some v3 else if y = x4 then some v4 else if y = x5 then some v5 else if y = x6 then some v6 else m y := by
  funext y
  repeat' split
  all_goals first | rfl | (subst y; assumption)
theorem kk_192 {k : Nat} (h : 192 ≤ k) (h2 : k < 256) : ((k / 64 * 64 : Nat) : Int) = 192 := by omega
theorem sv_ne {n : Nat} (h : ((n : Nat) : Int) ≠ 0) : ¬ n = 0 := fun e => h (by rw [e]; rfl)
theorem sv_eq {n : Nat} (h : ((n : Nat) : Int) = 0) : n = 0 := Int.ofNat_inj.mp h
theorem sum_le2 : ∀ l : List (List UInt8 × Tok), (l.map fun p => p.1.length).sum ≤ (l.map fun p => p.1.length + 1).sum
  | [] => Nat.le_refl _
  | p :: l => Nat.add_le_add (Nat.le_succ _) (sum_le2 l)
theorem sum_le1 (l : List (List UInt8 × Tok)) : ((l.map (·.1)).map List.length).sum ≤ (l.map fun p => p.1.length + 1).sum := by
  rw [List.map_map]; exact sum_le2 l
theorem unp_off {buf : List UInt8} {n off start saved nl : Nat} {name : List (List UInt8)} {r : UR} (h : Unp buf n off start saved nl name r) : (buf.length ≤ off ∧ r = .need) ∨ off < buf.length := by
  cases h with
  | need h => exact .inl ⟨h, rfl⟩
  | zero h _ => exact .inr h
  | ptr _ h _ _ _ _ _ _ => exact .inr (Nat.lt_of_succ_lt h)
  | ptrBad h _ _ _ _ => exact .inr (Nat.lt_of_succ_lt h)
  | lab _ h _ _ _ _ _ => exact .inr h
  | long _ h _ _ _ _ => exact .inr h
  | bad h _ => exact .inr h
theorem unp_step {buf : List UInt8} {n off start saved nl k : Nat} {name : List (List UInt8)} {r : UR} (h : Unp buf n off start saved nl name r) (hl : off < buf.length) (hk : (buf.getD off 0).toNat = k) :
    (k = 0 ∧ r = .done name (if saved = 0 then off + 1 else saved)) ∨
    (0 < k ∧ k < 64 ∧ ((nl + (k + 1) ≤ 255 ∧ ∃ n', n' < n ∧ Unp buf n' (off + 1 + k) start saved (nl + (k + 1)) (name ++ [(buf.drop (off + 1)).take k]) r) ∨ (255 < nl + (k + 1) ∧ r = .refused))) ∨
    (∃ (b c : UInt8) (p : Nat), off + 1 < buf.length ∧ buf.getD off 0 = b ∧ buf.getD (off + 1) 0 = c ∧ 192 ≤ k ∧ p = (b.toNat * 256 + c.toNat) % 16384 ∧ ((p < start ∧ ∃ n', n' < n ∧ Unp buf n' p p (if saved = 0 then off + 2 else saved) nl name r) ∨ (start ≤ p ∧ r = .refused))) ∨
    ((k = 64 ∨ k = 128) ∧ r = .refused) := by
  cases h with
  | need h => exact absurd hl (Nat.not_lt.mpr h)
  | zero _ h => exact .inl ⟨by rw [← hk, h]; rfl, rfl⟩
  | ptr p h1 h2 h3 h4 h5 h6 h7 => exact .inr (.inr (.inl ⟨_, _, p, h1, h2, h3, by rw [← hk, h2]; exact h4, h5, .inl ⟨h6, _, Nat.lt_succ_self _, h7⟩⟩))
  | ptrBad h1 h2 h3 h4 h5 => exact .inr (.inr (.inl ⟨_, _, _, h1, h2, h3, by rw [← hk, h2]; exact h4, rfl, .inr ⟨h5, rfl⟩⟩))
  | lab m _ h2 h3 h4 h5 h6 => subst h2; subst hk; exact .inr (.inl ⟨h3, h4, .inl ⟨h5, _, Nat.lt_succ_self _, h6⟩⟩)
  | long m _ h2 h3 h4 h5 => subst h2; subst hk; exact .inr (.inl ⟨h3, h4, .inr ⟨h5, rfl⟩⟩)
  | bad _ h => exact .inr (.inr (.inr ⟨by rw [← hk]; exact h, rfl⟩))
/-- what a turn of unpack_name's loop finds -/
inductive UnpJ (buf : List UInt8) (r : UR) (n : Nat) (m : Str → Option Value) (news : List (Addr × Obj)) : Prop
  | mk (off start saved nl : Nat) (name : List (List UInt8 × Tok)) (ln : Addr) (c : Nat) (t1 t2 t3 t4 t5 : Tok) (f1 : m (Str.ofString "off") = some (.int (off : Int) t1)) (f2 : m (Str.ofString "start_off") = some (.int (start : Int) t2)) (f3 : m (Str.ofString "saved_off") = some (.int (saved : Int) t3)) (f4 : m (Str.ofString "name_length") = some (.int (nl : Int) t4)) (f5 : m (Str.ofString "name") = some (.ref ln)) (f6 : m (Str.ofString "buf") = some (.bytes (List.toArray buf) t5)) (f7 : news = [(ln, listOf (bv name).toArray c)]) (f8 : Unp buf n off start saved nl (name.map (·.1)) r) (f9 : (name.map fun p => p.1.length + 1).sum ≤ nl) (f10 : nl ≤ 255) (f11 : name.length ≤ nl) : UnpJ buf r n m news
set_option maxRecDepth 100000 in
set_option maxHeartbeats 4000000 in
theorem unpack_call {w : World} {mean : ExcName → Option Value} {mg mb : Str → Option Value} {dp un : Nat} {gd : Option (List Code)} {cn : Str} {cs : Scope} {a : Addr} {ccd : Value} {cl : List (Str × Addr)} {outer : List Env} {A₀ : Around} {base h₀ : Heap} {L : Addr}
    {m : Str → Option Value} {s : Shared} {Q E : Value → Shared → Prop} {buf : List UInt8} {at_ n : Nat} {r : UR} {tk t0 : Tok} {news : List (Addr × Obj)}
    (B : Below A₀ base outer h₀) (F : Fr h₀ L s.heap m) (X : (Mine.hd.heap_39 w.params).In h₀) (N : News h₀ L s.heap news) (T : Top VW LW mean mg mb h₀) (hk : cs.kind = .function)
    (hd : dp + 3 < recursionLimit) (hu : un + 24 < cLine) (hbuf : buf.length ≤ 1000000)
    (hU : Unp buf n at_ at_ 0 0 [] r) (hasc : ∀ name sv, r = .done name sv → ∀ c ∈ joinL [46] name, c.toNat < 128)
    (hraise : ∀ C e t vs G h' tk', (r = .need ∧ C = 84 ∨ r = .refused ∧ C = 72) → Fr h₀ L G m → RaisedS base G (envX cn cs L a ccd cl :: outer) e (.ref C) t vs [] h' → G.UpToSlots h' → E (.ref e) { s with heap := h', toks := tk' })
    (hret : ∀ name sv T t1 t2 h' tk', r = .done name sv → s.heap.objs.size ≤ T → Fr h₀ L h' m → News h₀ L h' ((T, ({ cls := .type "tuple", data := .seq #[.str (sOf ((joinL [46] name).map UInt8.toNat)) t1, .int (sv : Nat) t2] } : Obj)) :: news) → (∀ p ∈ news, p.1 < T) → Q (.ref T) { s with heap := h', toks := tk' }) :
    wpAny (model PR w) (ktrTop dp un gd cn cs L a ccd cl outer) (call (.ref 100) [.bytes buf.toArray t0, .int (at_ : Int) tk]) Q E s := by
  have hraise' : ∀ C e t vs G h' tk', (r = .need ∧ C = 84 ∨ r = .refused ∧ C = 72) → GSub s.heap G (List.map (·.1) ([] : List (Addr × Obj))) → RaisedS base G (envX cn cs L a ccd cl :: outer) e (.ref C) t vs [] h' → G.UpToSlots h' → E (.ref e) { s with heap := h', toks := tk' } :=
    fun C e t vs G h' tk' hr hG => hraise C e t vs G h' tk' hr ⟨F.ns.at' fun o x => hG _ _ x (by simp), fun b o x => hG _ _ (F.keep b o x) (by simp), F.above⟩
  have hret' : ∀ name sv T t1 t2 h' tk', r = .done name sv → Kept [] s.heap h' → s.heap.objs.size ≤ T → h'.get? T = some ({ cls := .type "tuple", data := .seq #[.str (sOf ((joinL [46] name).map UInt8.toNat)) t1, .int (sv : Nat) t2] } : Obj) → Q (.ref T) { s with heap := h', toks := tk' } := by
    intro name sv T t1 t2 h' tk' hr hK hT hg
    have hT' : @LE.le Nat _ s.heap.objs.size T := hT
    refine hret name sv T t1 t2 h' tk' hr hT ⟨F.ns.at' fun o e => hK _ _ e (by simp), fun b o e => hK _ _ (F.keep b o e) (by simp), F.above⟩ (fun p hp => ?_) fun p hp => Nat.lt_of_lt_of_le (Heap.lt_size (N p hp).1) hT
    rcases List.mem_cons.mp hp with rfl | hp
    · exact ⟨hg, Nat.ne_of_gt (Nat.lt_of_lt_of_le F.ns.lt hT), Heap.get?_none_of_le (Nat.le_trans F.above (Nat.le_trans (Nat.le_of_lt F.ns.lt) hT))⟩
    · exact ⟨hK _ _ (N p hp).1 (by simp), (N p hp).2⟩
  clear hret hraise
  replace N : News h₀ L s.heap [] := News.nil
  refine wpAny_call ?_
  k_dflt (first   | (refine' code_defR ?zzk1 ?zzk2 ?zzk3 ?zzk4 ?zzk5 ?zzkA ?zzkF ?zzkK ?zzk6 ?zzk7 ?zzk8 ?zzk9 ?zzkB ?_ ?zzc2 ?zzc3 ?zzc4 ?zzc5; (case zzkA => exact rfl); (case zzkF => exact rfl); (case zzkK => assumption); (case zzk1 => k_asm); (case zzk2 => k_asm); (case zzk3 => k_asm); (case zzk4 => k_asm); (case zzk5 => k_asm); (case zzk6 => k_is); (case zzk7 => k_is); (case zzk8 => ktr_room); (case zzk9 => exact BindsTo.of_eq rfl); (case zzc5 => decide); (case zzkB => exact locs rfl); (case zzc2 => exact rfl); (case zzc3 => exact rfl); (case zzc4 => exact rfl); k_whole; intro zg zL zh zG zlL zF zN zB zX zT; (try dsimp only); (try k_lift zB); (try k_fold)))
  clear N F
  repeat' (first | ((fail_if_success (with_reducible show wpAny _ _ (exec (Stmt.While ..) _) _ _ _)); first | ((with_reducible show wpAny _ _ (call (Value.ref 49) _) _ _ _); k_dflt (refine' compat_call ?zzB ?zzF ?zzX ?zzN ?zzT ?zzhk ?zzhd ?zzhu ?_; (case zzB => k_asm); (case zzF => k_asm); (case zzX => k_asm); (case zzN => k_asm); (case zzT => k_asm); (case zzhk => exact rfl); (case zzhd => ktr_room); (case zzhu => ktr_units)); intro zu zh ztk zF zN; (try k_sweep)) | ((with_reducible show wpAny _ _ (call (Value.builtin "len") _) _ _ _); k_dflt (refine lenL (by first | omega | (simp only [List.length_map, List.length_append, List.length_cons, List.length_nil, List.length_singleton]; omega)) ?_); intro zt zk) | ((with_reducible show wpAny _ _ (getMethod (Value.bytes _ _) (Str.ofString "join") _) _ _ _); k_dflt (refine getMethod_join ?_)) | (k_unfold; (try dsimp only)) | walk1 | dsimp only) | fail "no step")
  rename Fr _ _ _ _ => F9
  rename News _ _ _ _ => N9
  refine While_inv2 (UnpJ buf r) F9 N9 (n₀ := n) ⟨at_, at_, 0, 0, [], _, _, _, _, _, _, _, rfl, rfl, rfl, rfl, rfl, rfl, rfl, hU, by simp, by omega, by simp⟩ ?_ (by passes_own)
  rintro n m₁ news₁ h₁ tk₁ F1 N1 ⟨off, start, saved, nl, name, ln, c, t1, t2, t3, t4, t5, j1, j2, j3, j4, j5, j6, rfl, hU1, hs1, hs2, hs3⟩
  clear F9 N9 hU
  rw [m_at6 j1 j2 j3 j4 j5 j6] at F1
  clear j1 j2 j3 j4 j5 j6
  try dsimp only
  rcases unp_off hU1 with ⟨q1, rfl⟩ | q1
  · clear hU1 hs1 hs2 hs3
    repeat' (first | ((fail_if_success (with_reducible show wpAny _ _ (leaving _ _) _ _ _)); first | ((with_reducible show wpAny _ _ (call (Value.ref 49) _) _ _ _); k_dflt (refine' compat_call ?zzB ?zzF ?zzX ?zzN ?zzT ?zzhk ?zzhd ?zzhu ?_; (case zzB => k_asm); (case zzF => k_asm); (case zzX => k_asm); (case zzN => k_asm); (case zzT => k_asm); (case zzhk => exact rfl); (case zzhd => ktr_room); (case zzhu => ktr_units)); intro zu zh ztk zF zN; (try k_sweep)) | ((with_reducible show wpAny _ _ (call (Value.builtin "len") _) _ _ _); k_dflt (refine lenL (by first | omega | (simp only [List.length_map, List.length_append, List.length_cons, List.length_nil, List.length_singleton]; omega)) ?_); intro zt zk) | ((with_reducible show wpAny _ _ (getMethod (Value.bytes _ _) (Str.ofString "join") _) _ _ _); k_dflt (refine getMethod_join ?_)) | (k_unfold; (try dsimp only)) | walk1 | dsimp only) | fail "no step")
    rename Heap.MadeExcOf _ _ _ _ _ => hmx
    rename GSub _ _ _ => G9
    rename Below _ _ (_ :: _) _ => B9
    (try k_unfold)
    refine leave_raiseS B9 hmx (by k_asm) News.nil (fun h5 t5 R5 _ U5 => ?_)
    exact hraise' _ _ _ _ _ _ _ (.inl ⟨rfl, rfl⟩) G9 R5 U5
  repeat' (first | ((fail_if_success (with_reducible show wpAny _ _ (subscriptTail ..) _ _ _)); first | ((with_reducible show wpAny _ _ (call (Value.ref 49) _) _ _ _); k_dflt (refine' compat_call ?zzB ?zzF ?zzX ?zzN ?zzT ?zzhk ?zzhd ?zzhu ?_; (case zzB => k_asm); (case zzF => k_asm); (case zzX => k_asm); (case zzN => k_asm); (case zzT => k_asm); (case zzhk => exact rfl); (case zzhd => ktr_room); (case zzhu => ktr_units)); intro zu zh ztk zF zN; (try k_sweep)) | ((with_reducible show wpAny _ _ (call (Value.builtin "len") _) _ _ _); k_dflt (refine lenL (by first | omega | (simp only [List.length_map, List.length_append, List.length_cons, List.length_nil, List.length_singleton]; omega)) ?_); intro zt zk) | ((with_reducible show wpAny _ _ (getMethod (Value.bytes _ _) (Str.ofString "join") _) _ _ _); k_dflt (refine getMethod_join ?_)) | (k_unfold; (try dsimp only)) | walk1 | dsimp only) | fail "no step")
  refine KBy.item_N (Nat.le_trans hbuf (by decide)) (Int.natCast_nonneg _) (Int.ofNat_lt.mpr q1) ?_
  rw [Int.toNat_natCast]
  generalize hgk : (buf.getD off 0).toNat = k
  have hk : k < 256 := by rw [← hgk]; exact (buf.getD off 0).toNat_lt
  repeat' (first | ((fail_if_success (with_reducible show wpAny _ _ (compareOp CmpOp.Eq (Value.int _ _) _) _ _ _)); first | ((with_reducible show wpAny _ _ (call (Value.ref 49) _) _ _ _); k_dflt (refine' compat_call ?zzB ?zzF ?zzX ?zzN ?zzT ?zzhk ?zzhd ?zzhu ?_; (case zzB => k_asm); (case zzF => k_asm); (case zzX => k_asm); (case zzN => k_asm); (case zzT => k_asm); (case zzhk => exact rfl); (case zzhd => ktr_room); (case zzhu => ktr_units)); intro zu zh ztk zF zN; (try k_sweep)) | ((with_reducible show wpAny _ _ (call (Value.builtin "len") _) _ _ _); k_dflt (refine lenL (by first | omega | (simp only [List.length_map, List.length_append, List.length_cons, List.length_nil, List.length_singleton]; omega)) ?_); intro zt zk) | ((with_reducible show wpAny _ _ (getMethod (Value.bytes _ _) (Str.ofString "join") _) _ _ _); k_dflt (refine getMethod_join ?_)) | (k_unfold; (try dsimp only)) | walk1 | dsimp only) | fail "no step")
  rcases unp_step hU1 q1 hgk with ⟨q2, rfl⟩ | ⟨q3, q4, q5⟩ | ⟨b, c2, p, p1, q2, q3, q4, q5, q6⟩ | ⟨q3, rfl⟩
  · subst q2
    have hjl : (joinL [(46 : UInt8)] (name.map (·.1))).length ≤ 1000 := by
      have h1 := joinL_length [(46 : UInt8)] (name.map (·.1))
      have h3 := sum_le1 name
      simp only [List.length_map, List.length_singleton] at h1
      omega
    have hjz : (name.map fun p => p.1.length).sum + name.length * [(46 : UInt8)].length ≤ 16777216 := by
      have h3 := sum_le2 name
      simp only [List.length_singleton]
      omega
    clear hU1 hgk hk
    repeat' (first | ((fail_if_success (with_reducible show wpAny _ _ (exec (Stmt.Brek ..) _) _ _ _)); first | ((with_reducible show wpAny _ _ (call (Value.ref 49) _) _ _ _); k_dflt (refine' compat_call ?zzB ?zzF ?zzX ?zzN ?zzT ?zzhk ?zzhd ?zzhu ?_; (case zzB => k_asm); (case zzF => k_asm); (case zzX => k_asm); (case zzN => k_asm); (case zzT => k_asm); (case zzhk => exact rfl); (case zzhd => ktr_room); (case zzhu => ktr_units)); intro zu zh ztk zF zN; (try k_sweep)) | ((with_reducible show wpAny _ _ (call (Value.builtin "len") _) _ _ _); k_dflt (refine lenL (by first | omega | (simp only [List.length_map, List.length_append, List.length_cons, List.length_nil, List.length_singleton]; omega)) ?_); intro zt zk) | ((with_reducible show wpAny _ _ (getMethod (Value.bytes _ _) (Str.ofString "join") _) _ _ _); k_dflt (refine getMethod_join ?_)) | (k_unfold; (try dsimp only)) | walk1 | dsimp only) | fail "no step")
    dsimp only [WhileStep2]
    repeat' (first | ((fail_if_success (with_reducible show wpAny _ _ (call (Value.builtin "bytes.join") _) _ _ _)); first | ((with_reducible show wpAny _ _ (call (Value.ref 49) _) _ _ _); k_dflt (refine' compat_call ?zzB ?zzF ?zzX ?zzN ?zzT ?zzhk ?zzhd ?zzhu ?_; (case zzB => k_asm); (case zzF => k_asm); (case zzX => k_asm); (case zzN => k_asm); (case zzT => k_asm); (case zzhk => exact rfl); (case zzhd => ktr_room); (case zzhu => ktr_units)); intro zu zh ztk zF zN; (try k_sweep)) | ((with_reducible show wpAny _ _ (call (Value.builtin "len") _) _ _ _); k_dflt (refine lenL (by first | omega | (simp only [List.length_map, List.length_append, List.length_cons, List.length_nil, List.length_singleton]; omega)) ?_); intro zt zk) | ((with_reducible show wpAny _ _ (getMethod (Value.bytes _ _) (Str.ofString "join") _) _ _ _); k_dflt (refine getMethod_join ?_)) | (k_unfold; (try dsimp only)) | walk1 | dsimp only) | fail "no step")
    all_goals rename News _ _ _ _ => N2
    all_goals refine call_join (sep := [46]) (N2.isList (.head _)) hjz fun t6 k6 => ?_
    all_goals repeat' (first | ((fail_if_success (with_reducible show wpAny _ _ (call (Value.builtin "bytes.decode") _) _ _ _)); first | ((with_reducible show wpAny _ _ (call (Value.ref 49) _) _ _ _); k_dflt (refine' compat_call ?zzB ?zzF ?zzX ?zzN ?zzT ?zzhk ?zzhd ?zzhu ?_; (case zzB => k_asm); (case zzF => k_asm); (case zzX => k_asm); (case zzN => k_asm); (case zzT => k_asm); (case zzhk => exact rfl); (case zzhd => ktr_room); (case zzhu => ktr_units)); intro zu zh ztk zF zN; (try k_sweep)) | ((with_reducible show wpAny _ _ (call (Value.builtin "len") _) _ _ _); k_dflt (refine lenL (by first | omega | (simp only [List.length_map, List.length_append, List.length_cons, List.length_nil, List.length_singleton]; omega)) ?_); intro zt zk) | ((with_reducible show wpAny _ _ (getMethod (Value.bytes _ _) (Str.ofString "join") _) _ _ _); k_dflt (refine getMethod_join ?_)) | (k_unfold; (try dsimp only)) | walk1 | dsimp only) | fail "no step")
    all_goals refine call_decode (hasc _ _ rfl) (by omega) fun t7 k7 => ?_
    all_goals repeat' (first | ((fail_if_success (with_reducible show wpAny _ _ (newTuple _) _ _ _)); first | ((with_reducible show wpAny _ _ (call (Value.ref 49) _) _ _ _); k_dflt (refine' compat_call ?zzB ?zzF ?zzX ?zzN ?zzT ?zzhk ?zzhd ?zzhu ?_; (case zzB => k_asm); (case zzF => k_asm); (case zzX => k_asm); (case zzN => k_asm); (case zzT => k_asm); (case zzhk => exact rfl); (case zzhd => ktr_room); (case zzhu => ktr_units)); intro zu zh ztk zF zN; (try k_sweep)) | ((with_reducible show wpAny _ _ (call (Value.builtin "len") _) _ _ _); k_dflt (refine lenL (by first | omega | (simp only [List.length_map, List.length_append, List.length_cons, List.length_nil, List.length_singleton]; omega)) ?_); intro zt zk) | ((with_reducible show wpAny _ _ (getMethod (Value.bytes _ _) (Str.ofString "join") _) _ _ _); k_dflt (refine getMethod_join ?_)) | (k_unfold; (try dsimp only)) | walk1 | dsimp only) | fail "no step")
    all_goals rename Fr _ _ _ _ => F3
    all_goals rename News _ _ _ _ => N3
    all_goals refine newTuple_N F3 N3 (fun h8 F8 N8 => ?_) (by simp [sizeLine_eq])
    all_goals rename GSub _ _ _ => G9
    all_goals have hT9 := F3.ns.lt
    all_goals (try k_unfold)
    all_goals first
      | exact hret' _ (off + 1) _ _ _ _ _ (by rw [if_pos (sv_eq (by assumption))]) (Kept.of G9 F8) (Nat.le_of_lt (Nat.lt_of_le_of_lt (by assumption) hT9)) (N8 _ (.head _)).1
      | exact hret' _ saved _ _ _ _ _ (by rw [if_neg (sv_ne (by assumption))]) (Kept.of G9 F8) (Nat.le_of_lt (Nat.lt_of_le_of_lt (by assumption) hT9)) (N8 _ (.head _)).1
  · have hk0 : ((k / 64 * 64 : Nat) : Int) = 0 := by rw [Nat.div_eq_of_lt q4]; rfl
    have hk9 : @Ne Int ((k : Nat) : Int) 0 := fun e => Nat.ne_of_gt q3 (Int.ofNat_inj.mp e)
    clear hU1 hgk
    repeat' (first | ((fail_if_success (with_reducible show wpAny _ _ (compareOp CmpOp.Eq (Value.int (Builtin.bitAnd _ _) _) _) _ _ _)); first | ((with_reducible show wpAny _ _ (call (Value.ref 49) _) _ _ _); k_dflt (refine' compat_call ?zzB ?zzF ?zzX ?zzN ?zzT ?zzhk ?zzhd ?zzhu ?_; (case zzB => k_asm); (case zzF => k_asm); (case zzX => k_asm); (case zzN => k_asm); (case zzT => k_asm); (case zzhk => exact rfl); (case zzhd => ktr_room); (case zzhu => ktr_units)); intro zu zh ztk zF zN; (try k_sweep)) | ((with_reducible show wpAny _ _ (call (Value.builtin "len") _) _ _ _); k_dflt (refine lenL (by first | omega | (simp only [List.length_map, List.length_append, List.length_cons, List.length_nil, List.length_singleton]; omega)) ?_); intro zt zk) | ((with_reducible show wpAny _ _ (getMethod (Value.bytes _ _) (Str.ofString "join") _) _ _ _); k_dflt (refine getMethod_join ?_)) | (k_unfold; (try dsimp only)) | walk1 | dsimp only) | fail "no step")
    · exact absurd (by assumption) hk9
    rw [and_c0 hk, hk0]
    repeat' (first | ((fail_if_success (with_reducible show wpAny _ _ (compareOp CmpOp.Eq (Value.int (Builtin.bitAnd _ _) _) _) _ _ _)); first | ((with_reducible show wpAny _ _ (call (Value.ref 49) _) _ _ _); k_dflt (refine' compat_call ?zzB ?zzF ?zzX ?zzN ?zzT ?zzhk ?zzhd ?zzhu ?_; (case zzB => k_asm); (case zzF => k_asm); (case zzX => k_asm); (case zzN => k_asm); (case zzT => k_asm); (case zzhk => exact rfl); (case zzhd => ktr_room); (case zzhu => ktr_units)); intro zu zh ztk zF zN; (try k_sweep)) | ((with_reducible show wpAny _ _ (call (Value.builtin "len") _) _ _ _); k_dflt (refine lenL (by first | omega | (simp only [List.length_map, List.length_append, List.length_cons, List.length_nil, List.length_singleton]; omega)) ?_); intro zt zk) | ((with_reducible show wpAny _ _ (getMethod (Value.bytes _ _) (Str.ofString "join") _) _ _ _); k_dflt (refine getMethod_join ?_)) | (k_unfold; (try dsimp only)) | walk1 | dsimp only) | fail "no step")
    rw [and_c0 hk, hk0]
    repeat' (first | ((fail_if_success (with_reducible show wpAny _ _ (subscriptTail ..) _ _ _)); first | ((with_reducible show wpAny _ _ (call (Value.ref 49) _) _ _ _); k_dflt (refine' compat_call ?zzB ?zzF ?zzX ?zzN ?zzT ?zzhk ?zzhd ?zzhu ?_; (case zzB => k_asm); (case zzF => k_asm); (case zzX => k_asm); (case zzN => k_asm); (case zzT => k_asm); (case zzhk => exact rfl); (case zzhd => ktr_room); (case zzhu => ktr_units)); intro zu zh ztk zF zN; (try k_sweep)) | ((with_reducible show wpAny _ _ (call (Value.builtin "len") _) _ _ _); k_dflt (refine lenL (by first | omega | (simp only [List.length_map, List.length_append, List.length_cons, List.length_nil, List.length_singleton]; omega)) ?_); intro zt zk) | ((with_reducible show wpAny _ _ (getMethod (Value.bytes _ _) (Str.ofString "join") _) _ _ _); k_dflt (refine getMethod_join ?_)) | (k_unfold; (try dsimp only)) | walk1 | dsimp only) | fail "no step")
    rename Fr _ _ _ _ => F2
    rename News _ _ _ _ => N2
    refine sliceL F2 N2 (by constructor) (by constructor) (pick_ij buf (off + 1) (off + 1 + k) rfl rfl) (Nat.le_trans hbuf (by decide)) (fun h3 t3 k3 F3 N3 => ?_) (by with_unfolding_all rfl) (by intro _; with_unfolding_all rfl)
    rw [show off + 1 + k - (off + 1) = k from Nat.add_sub_cancel_left ..]
    clear F2 N2
    repeat' (first | ((fail_if_success (with_reducible show wpAny _ _ (call (Value.builtin "list.append") _) _ _ _)); first | ((with_reducible show wpAny _ _ (call (Value.ref 49) _) _ _ _); k_dflt (refine' compat_call ?zzB ?zzF ?zzX ?zzN ?zzT ?zzhk ?zzhd ?zzhu ?_; (case zzB => k_asm); (case zzF => k_asm); (case zzX => k_asm); (case zzN => k_asm); (case zzT => k_asm); (case zzhk => exact rfl); (case zzhd => ktr_room); (case zzhu => ktr_units)); intro zu zh ztk zF zN; (try k_sweep)) | ((with_reducible show wpAny _ _ (call (Value.builtin "len") _) _ _ _); k_dflt (refine lenL (by first | omega | (simp only [List.length_map, List.length_append, List.length_cons, List.length_nil, List.length_singleton]; omega)) ?_); intro zt zk) | ((with_reducible show wpAny _ _ (getMethod (Value.bytes _ _) (Str.ofString "join") _) _ _ _); k_dflt (refine getMethod_join ?_)) | (k_unfold; (try dsimp only)) | walk1 | dsimp only) | fail "no step")
    rename Fr _ _ _ _ => F2
    rename News _ _ _ _ => N2
    refine append_L F2 N2 (by k_updF) (Nat.le_trans hs3 (Nat.le_trans hs2 (by decide))) fun h4 F4 N4 => ?_
    try dsimp only at N4
    clear F2 N2
    repeat' (first | ((fail_if_success (with_reducible show wpAny _ _ (leaving _ _) _ _ _)); first | ((with_reducible show wpAny _ _ (call (Value.ref 49) _) _ _ _); k_dflt (refine' compat_call ?zzB ?zzF ?zzX ?zzN ?zzT ?zzhk ?zzhd ?zzhu ?_; (case zzB => k_asm); (case zzF => k_asm); (case zzX => k_asm); (case zzN => k_asm); (case zzT => k_asm); (case zzhk => exact rfl); (case zzhd => ktr_room); (case zzhu => ktr_units)); intro zu zh ztk zF zN; (try k_sweep)) | ((with_reducible show wpAny _ _ (call (Value.builtin "len") _) _ _ _); k_dflt (refine lenL (by first | omega | (simp only [List.length_map, List.length_append, List.length_cons, List.length_nil, List.length_singleton]; omega)) ?_); intro zt zk) | ((with_reducible show wpAny _ _ (getMethod (Value.bytes _ _) (Str.ofString "join") _) _ _ _); k_dflt (refine getMethod_join ?_)) | (k_unfold; (try dsimp only)) | walk1 | dsimp only) | fail "no step")
    · rcases q5 with ⟨q5, n', hn, q6⟩ | ⟨q5, rfl⟩
      · exfalso; clear hs1 hs2 hs3; omega
      rename Heap.MadeExcOf _ _ _ _ _ => hmx
      rename GSub _ _ _ => G9
      rename Below _ _ (_ :: _) _ => B9
      (try k_unfold)
      refine leave_raiseS B9 hmx (by k_asm) News.nil (fun h5 t5 R5 _ U5 => ?_)
      exact hraise' _ _ _ _ _ _ _ (.inr ⟨rfl, rfl⟩) G9 R5 U5
    · rcases q5 with ⟨q5, n', hn, q6⟩ | ⟨q5, rfl⟩
      · rename Fr _ _ _ _ => F9
        rename News _ _ _ _ => N9
        refine ⟨_, _, _, [(ln, listOf (bv (name ++ [((buf.drop (off + 1)).take k, _)])).toArray (c + 1))], _, rfl, F9, N9, hn, off + 1 + k, start, saved, nl + (k + 1), name ++ [((buf.drop (off + 1)).take k, _)], ln, c + 1, _, _, _, _, _, rfl, rfl, rfl, rfl, rfl, rfl, rfl, ?_, ?_, q5, ?_⟩
        · rw [List.map_append]; exact q6
        · simp only [List.map_append, List.sum_append, List.map_cons, List.map_nil, List.sum_cons, List.sum_nil, List.length_take]; exact Nat.add_le_add hs1 (Nat.succ_le_succ (Nat.min_le_left _ _))
        · simp only [List.length_append, List.length_singleton]; exact Nat.add_le_add hs3 (Nat.le_add_left _ _)
      · exfalso; clear hs1 hs2 hs3; omega
  · have hk2 := c2.toNat_lt
    have hk0 : ((k / 64 * 64 : Nat) : Int) = 192 := kk_192 q4 hk
    have hk9 : @Ne Int ((k : Nat) : Int) 0 := fun e => by rw [Int.ofNat_inj.mp e] at q4; exact absurd q4 (by decide)
    clear hU1
    repeat' (first | ((fail_if_success (with_reducible show wpAny _ _ (compareOp CmpOp.Eq (Value.int (Builtin.bitAnd _ _) _) _) _ _ _)); first | ((with_reducible show wpAny _ _ (call (Value.ref 49) _) _ _ _); k_dflt (refine' compat_call ?zzB ?zzF ?zzX ?zzN ?zzT ?zzhk ?zzhd ?zzhu ?_; (case zzB => k_asm); (case zzF => k_asm); (case zzX => k_asm); (case zzN => k_asm); (case zzT => k_asm); (case zzhk => exact rfl); (case zzhd => ktr_room); (case zzhu => ktr_units)); intro zu zh ztk zF zN; (try k_sweep)) | ((with_reducible show wpAny _ _ (call (Value.builtin "len") _) _ _ _); k_dflt (refine lenL (by first | omega | (simp only [List.length_map, List.length_append, List.length_cons, List.length_nil, List.length_singleton]; omega)) ?_); intro zt zk) | ((with_reducible show wpAny _ _ (getMethod (Value.bytes _ _) (Str.ofString "join") _) _ _ _); k_dflt (refine getMethod_join ?_)) | (k_unfold; (try dsimp only)) | walk1 | dsimp only) | fail "no step")
    · exact absurd (by assumption) hk9
    rw [and_c0 hk, hk0]
    repeat' (first | ((fail_if_success (with_reducible show wpAny _ _ (subscriptTail ..) _ _ _)); first | ((with_reducible show wpAny _ _ (call (Value.ref 49) _) _ _ _); k_dflt (refine' compat_call ?zzB ?zzF ?zzX ?zzN ?zzT ?zzhk ?zzhd ?zzhu ?_; (case zzB => k_asm); (case zzF => k_asm); (case zzX => k_asm); (case zzN => k_asm); (case zzT => k_asm); (case zzhk => exact rfl); (case zzhd => ktr_room); (case zzhu => ktr_units)); intro zu zh ztk zF zN; (try k_sweep)) | ((with_reducible show wpAny _ _ (call (Value.builtin "len") _) _ _ _); k_dflt (refine lenL (by first | omega | (simp only [List.length_map, List.length_append, List.length_cons, List.length_nil, List.length_singleton]; omega)) ?_); intro zt zk) | ((with_reducible show wpAny _ _ (getMethod (Value.bytes _ _) (Str.ofString "join") _) _ _ _); k_dflt (refine getMethod_join ?_)) | (k_unfold; (try dsimp only)) | walk1 | dsimp only) | fail "no step")
    rename Fr _ _ _ _ => F2
    rename News _ _ _ _ => N2
    refine sliceL F2 N2 (by constructor) (by constructor) (pick_ij buf off (off + 2) rfl rfl) (Nat.le_trans hbuf (by decide)) (fun h3 t3 k3 F3 N3 => ?_) (by with_unfolding_all rfl) (by intro _; with_unfolding_all rfl)
    rw [show off + 2 - off = 2 from Nat.add_sub_cancel_left .., two_of p1 q2 q3]
    clear F2 N2
    repeat' (first | ((fail_if_success (with_reducible show wpAny _ _ (call (Value.builtin "_struct.unpack") _) _ _ _)); first | ((with_reducible show wpAny _ _ (call (Value.ref 49) _) _ _ _); k_dflt (refine' compat_call ?zzB ?zzF ?zzX ?zzN ?zzT ?zzhk ?zzhd ?zzhu ?_; (case zzB => k_asm); (case zzF => k_asm); (case zzX => k_asm); (case zzN => k_asm); (case zzT => k_asm); (case zzhk => exact rfl); (case zzhd => ktr_room); (case zzhu => ktr_units)); intro zu zh ztk zF zN; (try k_sweep)) | ((with_reducible show wpAny _ _ (call (Value.builtin "len") _) _ _ _); k_dflt (refine lenL (by first | omega | (simp only [List.length_map, List.length_append, List.length_cons, List.length_nil, List.length_singleton]; omega)) ?_); intro zt zk) | ((with_reducible show wpAny _ _ (getMethod (Value.bytes _ _) (Str.ofString "join") _) _ _ _); k_dflt (refine getMethod_join ?_)) | (k_unfold; (try dsimp only)) | walk1 | dsimp only) | fail "no step")
    rename Fr _ _ _ _ => F2
    rename News _ _ _ _ => N2
    refine unpack_H F2 N2 fun l4 h4 k4 k5 F4 N4 hl4 => ?_
    clear F2 N2
    (try k_lt hl4)
    repeat' (first | ((fail_if_success (with_reducible show wpAny _ _ (storeName _ _ (Value.int (Builtin.bitAnd _ _) _)) _ _ _)); first | ((with_reducible show wpAny _ _ (call (Value.ref 49) _) _ _ _); k_dflt (refine' compat_call ?zzB ?zzF ?zzX ?zzN ?zzT ?zzhk ?zzhd ?zzhu ?_; (case zzB => k_asm); (case zzF => k_asm); (case zzX => k_asm); (case zzN => k_asm); (case zzT => k_asm); (case zzhk => exact rfl); (case zzhd => ktr_room); (case zzhu => ktr_units)); intro zu zh ztk zF zN; (try k_sweep)) | ((with_reducible show wpAny _ _ (call (Value.builtin "len") _) _ _ _); k_dflt (refine lenL (by first | omega | (simp only [List.length_map, List.length_append, List.length_cons, List.length_nil, List.length_singleton]; omega)) ?_); intro zt zk) | ((with_reducible show wpAny _ _ (getMethod (Value.bytes _ _) (Str.ofString "join") _) _ _ _); k_dflt (refine getMethod_join ?_)) | (k_unfold; (try dsimp only)) | walk1 | dsimp only) | fail "no step")
    rw [and_14]
    rw [← q5]
    repeat' (first | ((fail_if_success (with_reducible show wpAny _ _ (leaving _ _) _ _ _)); first | ((with_reducible show wpAny _ _ (call (Value.ref 49) _) _ _ _); k_dflt (refine' compat_call ?zzB ?zzF ?zzX ?zzN ?zzT ?zzhk ?zzhd ?zzhu ?_; (case zzB => k_asm); (case zzF => k_asm); (case zzX => k_asm); (case zzN => k_asm); (case zzT => k_asm); (case zzhk => exact rfl); (case zzhd => ktr_room); (case zzhu => ktr_units)); intro zu zh ztk zF zN; (try k_sweep)) | ((with_reducible show wpAny _ _ (call (Value.builtin "len") _) _ _ _); k_dflt (refine lenL (by first | omega | (simp only [List.length_map, List.length_append, List.length_cons, List.length_nil, List.length_singleton]; omega)) ?_); intro zt zk) | ((with_reducible show wpAny _ _ (getMethod (Value.bytes _ _) (Str.ofString "join") _) _ _ _); k_dflt (refine getMethod_join ?_)) | (k_unfold; (try dsimp only)) | walk1 | dsimp only) | fail "no step")
    · rcases q6 with ⟨q6, n', hn, q7⟩ | ⟨q6, rfl⟩
      · exact absurd (Int.ofNat_le.mp (by assumption)) (Nat.not_le.mpr q6)
      rename Heap.MadeExcOf _ _ _ _ _ => hmx
      rename GSub _ _ _ => G9
      rename Below _ _ (_ :: _) _ => B9
      (try k_unfold)
      refine leave_raiseS B9 hmx (by k_asm) News.nil (fun h5 t5 R5 _ U5 => ?_)
      exact hraise' _ _ _ _ _ _ _ (.inr ⟨rfl, rfl⟩) G9 R5 U5
    all_goals (rcases q6 with ⟨q6, n', hn, q7⟩ | ⟨q6, rfl⟩)
    all_goals try exact absurd (Int.ofNat_le.mpr q6) (by assumption)
    all_goals rename Fr _ _ _ _ => F9
    all_goals rename News _ _ _ _ => N9
    · refine ⟨_, _, _, [(ln, listOf (bv name).toArray c)], _, rfl, F9, News.sub N9 (by simp), hn, p, p, saved, nl, name, ln, c, _, _, _, _, _, rfl, rfl, rfl, rfl, rfl, rfl, rfl, ?_, hs1, hs2, hs3⟩
      rw [if_neg (sv_ne (by assumption))] at q7; exact q7
    · refine ⟨_, _, _, [(ln, listOf (bv name).toArray c)], _, rfl, F9, News.sub N9 (by simp), hn, p, p, off + 2, nl, name, ln, c, _, _, _, _, _, rfl, rfl, rfl, rfl, rfl, rfl, rfl, ?_, hs1, hs2, hs3⟩
      rw [if_pos (sv_eq (by assumption))] at q7; exact q7
  · obtain ⟨v, hv, v1, v2, v3⟩ : ∃ v : Int, ((k / 64 * 64 : Nat) : Int) = v ∧ v ≠ 192 ∧ v ≠ 0 ∧ @Ne Int ((k : Nat) : Int) 0 := by rcases q3 with rfl | rfl <;> exact ⟨_, rfl, by decide, by decide, by decide⟩
    clear hU1 hs1 hs2 hs3
    repeat' (first | ((fail_if_success (with_reducible show wpAny _ _ (compareOp CmpOp.Eq (Value.int (Builtin.bitAnd _ _) _) _) _ _ _)); first | ((with_reducible show wpAny _ _ (call (Value.ref 49) _) _ _ _); k_dflt (refine' compat_call ?zzB ?zzF ?zzX ?zzN ?zzT ?zzhk ?zzhd ?zzhu ?_; (case zzB => k_asm); (case zzF => k_asm); (case zzX => k_asm); (case zzN => k_asm); (case zzT => k_asm); (case zzhk => exact rfl); (case zzhd => ktr_room); (case zzhu => ktr_units)); intro zu zh ztk zF zN; (try k_sweep)) | ((with_reducible show wpAny _ _ (call (Value.builtin "len") _) _ _ _); k_dflt (refine lenL (by first | omega | (simp only [List.length_map, List.length_append, List.length_cons, List.length_nil, List.length_singleton]; omega)) ?_); intro zt zk) | ((with_reducible show wpAny _ _ (getMethod (Value.bytes _ _) (Str.ofString "join") _) _ _ _); k_dflt (refine getMethod_join ?_)) | (k_unfold; (try dsimp only)) | walk1 | dsimp only) | fail "no step")
    · exact absurd (by assumption) v3
    rw [and_c0 hk, hv]
    repeat' (first | ((fail_if_success (with_reducible show wpAny _ _ (compareOp CmpOp.Eq (Value.int (Builtin.bitAnd _ _) _) _) _ _ _)); first | ((with_reducible show wpAny _ _ (call (Value.ref 49) _) _ _ _); k_dflt (refine' compat_call ?zzB ?zzF ?zzX ?zzN ?zzT ?zzhk ?zzhd ?zzhu ?_; (case zzB => k_asm); (case zzF => k_asm); (case zzX => k_asm); (case zzN => k_asm); (case zzT => k_asm); (case zzhk => exact rfl); (case zzhd => ktr_room); (case zzhu => ktr_units)); intro zu zh ztk zF zN; (try k_sweep)) | ((with_reducible show wpAny _ _ (call (Value.builtin "len") _) _ _ _); k_dflt (refine lenL (by first | omega | (simp only [List.length_map, List.length_append, List.length_cons, List.length_nil, List.length_singleton]; omega)) ?_); intro zt zk) | ((with_reducible show wpAny _ _ (getMethod (Value.bytes _ _) (Str.ofString "join") _) _ _ _); k_dflt (refine getMethod_join ?_)) | (k_unfold; (try dsimp only)) | walk1 | dsimp only) | fail "no step")
    · exact absurd (by assumption) v1
    rw [and_c0 hk, hv]
    repeat' (first | ((fail_if_success (with_reducible show wpAny _ _ (exec (Stmt.Raise ..) _) _ _ _)); first | ((with_reducible show wpAny _ _ (call (Value.ref 49) _) _ _ _); k_dflt (refine' compat_call ?zzB ?zzF ?zzX ?zzN ?zzT ?zzhk ?zzhd ?zzhu ?_; (case zzB => k_asm); (case zzF => k_asm); (case zzX => k_asm); (case zzN => k_asm); (case zzT => k_asm); (case zzhk => exact rfl); (case zzhd => ktr_room); (case zzhu => ktr_units)); intro zu zh ztk zF zN; (try k_sweep)) | ((with_reducible show wpAny _ _ (call (Value.builtin "len") _) _ _ _); k_dflt (refine lenL (by first | omega | (simp only [List.length_map, List.length_append, List.length_cons, List.length_nil, List.length_singleton]; omega)) ?_); intro zt zk) | ((with_reducible show wpAny _ _ (getMethod (Value.bytes _ _) (Str.ofString "join") _) _ _ _); k_dflt (refine getMethod_join ?_)) | (k_unfold; (try dsimp only)) | walk1 | dsimp only) | fail "no step")
    · exact absurd (by assumption) v2
    all_goals rcases q3 with rfl | rfl
    all_goals
      repeat' (first | ((fail_if_success (with_reducible show wpAny _ _ (leaving _ _) _ _ _)); first | ((with_reducible show wpAny _ _ (call (Value.ref 49) _) _ _ _); k_dflt (refine' compat_call ?zzB ?zzF ?zzX ?zzN ?zzT ?zzhk ?zzhd ?zzhu ?_; (case zzB => k_asm); (case zzF => k_asm); (case zzX => k_asm); (case zzN => k_asm); (case zzT => k_asm); (case zzhk => exact rfl); (case zzhd => ktr_room); (case zzhu => ktr_units)); intro zu zh ztk zF zN; (try k_sweep)) | ((with_reducible show wpAny _ _ (call (Value.builtin "len") _) _ _ _); k_dflt (refine lenL (by first | omega | (simp only [List.length_map, List.length_append, List.length_cons, List.length_nil, List.length_singleton]; omega)) ?_); intro zt zk) | ((with_reducible show wpAny _ _ (getMethod (Value.bytes _ _) (Str.ofString "join") _) _ _ _); k_dflt (refine getMethod_join ?_)) | (k_unfold; (try dsimp only)) | walk1 | dsimp only) | fail "no step")
      rename Heap.MadeExcOf _ _ _ _ _ => hmx
      rename GSub _ _ _ => G9
      rename Below _ _ (_ :: _) _ => B9
      (try k_unfold)
      refine leave_raiseS B9 hmx (by k_asm) News.nil (fun h5 t5 R5 _ U5 => ?_)
      exact hraise' _ _ _ _ _ _ _ (.inr ⟨rfl, rfl⟩) G9 R5 U5
end Mine
end
section
open PySem PySem.W PyProof.Rows
namespace Mine
set_option linter.unusedVariables false
section
variable {A₀ : Around} {base h₀ h g g'' h' : Heap} {outer : List Env} {env : Env} {L L' : Addr} {m m'' : Str → Option Value} {news : List (Addr × Obj)}
theorem dicts_enter (F : Fr h₀ L h m) (G : GSub h g (List.map (·.1) ([] : List (Addr × Obj)))) (D : KtsDicts (outer.filterMap (·.frame)) h₀) (hf : env.frame = some L) : KtsDicts ((env :: outer).filterMap (·.frame)) g := by
  intro b hb
  rw [List.filterMap_cons, hf] at hb
  rcases List.mem_cons.mp hb with rfl | hb
  · obtain ⟨oL, es, ep, hL, hLd, _⟩ := F.ns
    exact ⟨oL, es, ep, G _ _ hL (by simp), hLd⟩
  · obtain ⟨o, es, n, ho, hd⟩ := D b hb
    exact ⟨o, es, n, G _ _ (F.keep _ _ ho) (by simp), hd⟩
theorem turn_back (B : Below A₀ base outer h₀) (F : Fr h₀ L h m) (N : News h₀ L h news) (G : GSub h g (List.map (·.1) ([] : List (Addr × Obj)))) (hf : env.frame = some L) (Tn : KtsTurn ((env :: outer).filterMap (·.frame)) g g'') (F'' : Fr g'' L' h' m'') :
    ∃ h₁, KtsTurn (outer.filterMap (·.frame)) h₀ h₁ ∧ Fr h₁ L h' m ∧ News h₁ L h' news ∧ Below A₀ base outer h₁ ∧ ∀ b o, h.get? b = some o → b ≠ L → b ∉ outer.filterMap (·.frame) → h'.get? b = some o := by
  rw [List.filterMap_cons, hf] at Tn
  obtain ⟨oL, es, ep, hL, hLd, hLk, hLf⟩ := F.ns
  obtain ⟨sl, hs⟩ := Tn.up (G _ _ hL (by simp))
  have nL₀ : h₀.get? L = none := kts_self F
  have up : ∀ b o, h.get? b = some o → b ≠ L → b ∉ outer.filterMap (·.frame) → h'.get? b = some o := fun b o e n1 n2 =>
    F''.keep b o (Tn.other b o (G _ _ e (by simp)) (fun q => (List.mem_cons.mp q).elim n1 n2))
  obtain ⟨T₁, S₁⟩ := kts_turn_at (h := h') (fs := outer.filterMap (·.frame)) (g := h₀)
    (fun b hb => by
      obtain ⟨_, o, ho', _⟩ := B.frames.mem hb
      exact ⟨o, ho'⟩)
    (fun b o e nmem => up b o (F.keep b o e) (fun z => by rw [z, nL₀] at e; cases e) nmem)
    (fun b o e hm => by
      obtain ⟨sl', hs'⟩ := Tn.up (G _ _ (F.keep b o e) (by simp))
      exact ⟨sl', F''.keep _ _ hs'⟩)
  refine ⟨_, T₁, ⟨⟨_, es, ep, F''.keep _ _ hs, hLd, hLk, hLf⟩, S₁, by rw [T₁.size]; exact F.above⟩, fun p hp => ?_, ⟨B.stack, fun b o e => T₁.other b o (B.stays b o e) (fun hm => by
    rw [(B.frames.mem hm).1] at e
    cases e), B.frames.of_keeps fun b o e _ => by
    obtain ⟨sl', hs'⟩ := T₁.up e
    exact ⟨_, hs', rfl⟩⟩, up⟩
  have hn := N p hp
  refine ⟨up _ _ hn.1 hn.2.1 fun hm => ?_, hn.2.1, T₁.none_ _ hn.2.2⟩
  obtain ⟨_, o, ho', _⟩ := B.frames.mem hm
  rw [hn.2.2] at ho'; cases ho'
theorem turn_nil (Tn : KtsTurn ([] : List Addr) h₀ g'') (F : Fr g'' L h' m) (N : News g'' L h' news) : Fr h₀ L h' m ∧ News h₀ L h' news := by
  refine ⟨⟨F.ns, fun b o e => F.keep b o (Tn.other b o e (by simp)), by rw [← Tn.size]; exact F.above⟩, fun p hp => ⟨(N p hp).1, (N p hp).2.1, ?_⟩⟩
  cases q : h₀.get? p.1 with
  | none => rfl
  | some o => have := Tn.other _ o q (by simp); rw [(N p hp).2.2] at this; cases this
end
end Mine
end
section
open PySem PySem.W PyProof.Rows PyProof.Rows.LCg
namespace Mine
set_option linter.unusedVariables false
set_option maxRecDepth 100000 in
set_option maxHeartbeats 4000000 in
theorem refused_call {w : World} {mean : ExcName → Option Value} {mg mb : Str → Option Value} {dp un : Nat} {gd : Option (List Code)} {cn : Str} {cs : Scope} {a : Addr} {ccd : Value} {cl : List (Str × Addr)} {outer : List Env} {A₀ : Around} {base h₀ : Heap} {L : Addr}
    {m : Str → Option Value} {s : Shared} {Q E : Value → Shared → Prop} {buf : List UInt8} {at_ n : Nat} {r : UR} {tk t0 : Tok} {news : List (Addr × Obj)}
    (B : Below A₀ base outer h₀) (F : Fr h₀ L s.heap m) (X : (Mine.hd.heap_39 w.params).In h₀) (N : News h₀ L s.heap news) (T : Top VW LW mean mg mb h₀) (XB : (Mine.hd.heap_39 w.params).In base) (TB : Top VW LW mean mg mb base) (D : KtsDicts (outer.filterMap (·.frame)) h₀) (hk : cs.kind = .function)
    (hd : dp + 4 < recursionLimit) (hu : un + 32 < cLine) (hbuf : buf.length ≤ 1000000)
    (hU : Unp buf n at_ at_ 0 0 [] r) (hasc : ∀ name sv, r = .done name sv → ∀ c ∈ joinL [46] name, c.toNat < 128)
    (hneed : ∀ u h₁ h' tk', r = .need → KtsTurn (outer.filterMap (·.frame)) h₀ h₁ → Fr h₁ L h' m → News h₁ L h' news → Below A₀ base outer h₁ → Q (.str (Str.ofString "needs more") u) { s with heap := h', toks := tk' })
    (href : ∀ u h₁ h' tk', r = .refused → KtsTurn (outer.filterMap (·.frame)) h₀ h₁ → Fr h₁ L h' m → News h₁ L h' news → Below A₀ base outer h₁ → Q (.str (Str.ofString "refused") u) { s with heap := h', toks := tk' })
    (hdone : ∀ name sv T t1 t2 h' tk', r = .done name sv → s.heap.objs.size ≤ T → Fr h₀ L h' m → News h₀ L h' ((T, ({ cls := .type "tuple", data := .seq #[.str (sOf ((joinL [46] name).map UInt8.toNat)) t1, .int (sv : Nat) t2] } : Obj)) :: news) → (∀ p ∈ news, p.1 < T) → Q (.ref T) { s with heap := h', toks := tk' }) :
    wpAny (model PR w) (ktrTop dp un gd cn cs L a ccd cl outer) (call (.ref 129) [.bytes buf.toArray t0, .int (at_ : Int) tk]) Q E s := by
  have hturn : ∀ g g' L' m' h', GSub s.heap g (List.map (·.1) ([] : List (Addr × Obj))) → KtsTurn ((envX cn cs L a ccd cl :: outer).filterMap (·.frame)) g g' → Fr g' L' h' m' → ∃ h₁, KtsTurn (outer.filterMap (·.frame)) h₀ h₁ ∧ Fr h₁ L h' m ∧ News h₁ L h' news ∧ Below A₀ base outer h₁ := by
    intro g g' L' m' h' hG hT hF
    obtain ⟨h₁, a1, a2, a3, a4, _⟩ := turn_back (env := envX cn cs L a ccd cl) B F N hG rfl hT hF
    exact ⟨h₁, a1, a2, a3, a4⟩
  have hret' : ∀ name sv T t1 t2 h' tk', r = .done name sv → Kept [] s.heap h' → s.heap.objs.size ≤ T → h'.get? T = some ({ cls := .type "tuple", data := .seq #[.str (sOf ((joinL [46] name).map UInt8.toNat)) t1, .int (sv : Nat) t2] } : Obj) → Q (.ref T) { s with heap := h', toks := tk' } := by
    intro name sv T t1 t2 h' tk' hr hK hT hg
    refine hdone name sv T t1 t2 h' tk' hr hT ⟨F.ns.at' fun o e => hK _ _ e (by simp), fun b o e => hK _ _ (F.keep b o e) (by simp), F.above⟩ (fun p hp => ?_) fun p hp => Nat.lt_of_lt_of_le (Heap.lt_size (N p hp).1) hT
    rcases List.mem_cons.mp hp with rfl | hp
    · exact ⟨hg, Nat.ne_of_gt (Nat.lt_of_lt_of_le F.ns.lt hT), Heap.get?_none_of_le (Nat.le_trans F.above (Nat.le_trans (Nat.le_of_lt F.ns.lt) hT))⟩
    · exact ⟨hK _ _ (N p hp).1 (by simp), (N p hp).2⟩
  have hD' : ∀ g, GSub s.heap g (List.map (·.1) ([] : List (Addr × Obj))) → KtsDicts ((envX cn cs L a ccd cl :: outer).filterMap (·.frame)) g := fun g hG => dicts_enter (env := envX cn cs L a ccd cl) F hG D rfl
  clear hdone D
  replace N : News h₀ L s.heap [] := News.nil
  refine wpAny_call ?_
  k_dflt (first   | (refine' code_defR ?zzk1 ?zzk2 ?zzk3 ?zzk4 ?zzk5 ?zzkA ?zzkF ?zzkK ?zzk6 ?zzk7 ?zzk8 ?zzk9 ?zzkB ?_ ?zzc2 ?zzc3 ?zzc4 ?zzc5; (case zzkA => exact rfl); (case zzkF => exact rfl); (case zzkK => assumption); (case zzk1 => k_asm); (case zzk2 => k_asm); (case zzk3 => k_asm); (case zzk4 => k_asm); (case zzk5 => k_asm); (case zzk6 => k_is); (case zzk7 => k_is); (case zzk8 => ktr_room); (case zzk9 => exact BindsTo.of_eq rfl); (case zzc5 => decide); (case zzkB => exact locs rfl); (case zzc2 => exact rfl); (case zzc3 => exact rfl); (case zzc4 => exact rfl); k_whole; intro zg zL zh zG zlL zF zN zB zX zT; (try dsimp only); (try k_lift zB); (try k_fold)))
  clear N F
  rename GSub _ _ _ => G9
  have D9 := hD' _ G9
  clear hD'
  repeat' (first | ((fail_if_success (with_reducible show wpAny _ _ (call (Value.ref 100) _) _ _ _)); first | (k_unfold; (try dsimp only)) | walk1 | (dsimp only; walk1)) | fail "no step")
  rename Fr _ _ _ _ => F2
  rename News _ _ _ _ => N2
  rename Below _ _ (_ :: _) _ => B2
  refine unpack_call (r := r) B2 F2 (by k_asm) N2 (by k_asm) rfl (by ktr_room) (by ktr_units) hbuf hU hasc ?_ ?_
  · rintro C e t vs G h3 tk3 hr F3 R3 U3
    rcases hr with ⟨hr, rfl⟩ | ⟨hr, rfl⟩
    · repeat' (first | walk1 | (k_unfold; (try dsimp only)) | (dsimp only; walk1))
      rename KtsTurn _ _ _ => T7
      rename Fr _ _ _ _ => F7
      obtain ⟨h₁, a1, a2, a3, a4⟩ := hturn _ _ _ _ _ G9 T7 F7
      exact hneed _ _ _ _ hr a1 a2 a3 a4
    · repeat' (first | walk1 | (k_unfold; (try dsimp only)) | (dsimp only; walk1))
      rename KtsTurn _ _ _ => T7
      rename Fr _ _ _ _ => F7
      obtain ⟨h₁, a1, a2, a3, a4⟩ := hturn _ _ _ _ _ G9 T7 F7
      exact href _ _ _ _ hr a1 a2 a3 a4
  · rintro name sv T9 t1 t2 h3 tk3 hr hT F3 N3 l3
    have z2 := F2.ns.lt
    repeat' (first | ((fail_if_success (with_reducible show wpAny _ _ (call (Value.ref 100) _) _ _ _)); first | (k_unfold; (try dsimp only)) | walk1 | (dsimp only; walk1)) | fail "no step")
    exact hret' _ _ _ _ _ _ _ hr (Kept.of G9 F3) (Nat.le_trans (Nat.le_of_lt (Nat.lt_of_le_of_lt (by assumption) z2)) hT) (N3 _ (.head _)).1
end Mine
end
section
open PySem PySem.W PyProof.Rows PyProof.Rows.LCg
namespace Mine
set_option linter.unusedVariables false
set_option maxRecDepth 100000 in
set_option maxHeartbeats 4000000 in
theorem needy_call {w : World} {mean : ExcName → Option Value} {mg mb : Str → Option Value} {dp un : Nat} {gd : Option (List Code)} {cn : Str} {cs : Scope} {a : Addr} {ccd : Value} {cl : List (Str × Addr)} {outer : List Env} {A₀ : Around} {base h₀ : Heap} {L : Addr}
    {m : Str → Option Value} {s : Shared} {Q E : Value → Shared → Prop} {buf : List UInt8} {at_ cut n : Nat} {tk t0 t8 : Tok} {news : List (Addr × Obj)}
    (B : Below A₀ base outer h₀) (F : Fr h₀ L s.heap m) (X : (Mine.hd.heap_39 w.params).In h₀) (N : News h₀ L s.heap news) (T : Top VW LW mean mg mb h₀) (XB : (Mine.hd.heap_39 w.params).In base) (TB : Top VW LW mean mg mb base) (D : KtsDicts (outer.filterMap (·.frame)) h₀) (hk : cs.kind = .function)
    (hd : dp + 5 < recursionLimit) (hu : un + 40 < cLine) (hbuf : buf.length ≤ 1000000)
    (hU : Unp (buf.take cut) n at_ at_ 0 0 [] .need)
    (hret : ∀ h₁ h' tk', KtsTurn (outer.filterMap (·.frame)) h₀ h₁ → Fr h₁ L h' m → News h₁ L h' news → Below A₀ base outer h₁ → Q (.bool true) { s with heap := h', toks := tk' }) :
    wpAny (model PR w) (ktrTop dp un gd cn cs L a ccd cl outer) (call (.ref 136) [.bytes buf.toArray t0, .int (at_ : Int) tk, .int (cut : Int) t8]) Q E s := by
  have hturn : ∀ g g' L' m' h' tk', GSub s.heap g (List.map (·.1) ([] : List (Addr × Obj))) → KtsTurn ((envX cn cs L a ccd cl :: outer).filterMap (·.frame)) g g' → Fr g' L' h' m' → Q (.bool true) { s with heap := h', toks := tk' } := by
    intro g g' L' m' h' tk' hG hT hF
    obtain ⟨h₁, a1, a2, a3, a4, _⟩ := turn_back (env := envX cn cs L a ccd cl) B F N hG rfl hT hF
    exact hret _ _ _ a1 a2 a3 a4
  have hD' : ∀ g, GSub s.heap g (List.map (·.1) ([] : List (Addr × Obj))) → KtsDicts ((envX cn cs L a ccd cl :: outer).filterMap (·.frame)) g := fun g hG => dicts_enter (env := envX cn cs L a ccd cl) F hG D rfl
  clear hret D
  replace N : News h₀ L s.heap [] := News.nil
  refine wpAny_call ?_
  k_dflt (first   | (refine' code_defR ?zzk1 ?zzk2 ?zzk3 ?zzk4 ?zzk5 ?zzkA ?zzkF ?zzkK ?zzk6 ?zzk7 ?zzk8 ?zzk9 ?zzkB ?_ ?zzc2 ?zzc3 ?zzc4 ?zzc5; (case zzkA => exact rfl); (case zzkF => exact rfl); (case zzkK => assumption); (case zzk1 => k_asm); (case zzk2 => k_asm); (case zzk3 => k_asm); (case zzk4 => k_asm); (case zzk5 => k_asm); (case zzk6 => k_is); (case zzk7 => k_is); (case zzk8 => ktr_room); (case zzk9 => exact BindsTo.of_eq rfl); (case zzc5 => decide); (case zzkB => exact locs rfl); (case zzc2 => exact rfl); (case zzc3 => exact rfl); (case zzc4 => exact rfl); k_whole; intro zg zL zh zG zlL zF zN zB zX zT; (try dsimp only); (try k_lift zB); (try k_fold)))
  clear N F
  rename GSub _ _ _ => G9
  have D9 := hD' _ G9
  clear hD'
  repeat' (first | ((fail_if_success (with_reducible show wpAny _ _ (subscriptTail ..) _ _ _)); first | (k_unfold; (try dsimp only)) | walk1 | (dsimp only; walk1)) | fail "no step")
  rename Fr _ _ _ _ => F2
  rename News _ _ _ _ => N2
  refine sliceL F2 N2 (by constructor) (by constructor) (pick_j buf cut rfl) (by omega) (fun h3 t3 k3 F3 N3 => ?_) (by with_unfolding_all rfl) (by intro _; with_unfolding_all rfl)
  clear F2 N2
  repeat' (first | ((fail_if_success (with_reducible show wpAny _ _ (call (Value.ref 129) _) _ _ _)); first | (k_unfold; (try dsimp only)) | walk1 | (dsimp only; walk1)) | fail "no step")
  rename Fr _ _ _ _ => F2
  rename News _ _ _ _ => N2
  rename Below _ _ (_ :: _) _ => B2
  refine refused_call (r := .need) B2 F2 (by k_asm) N2 (by k_asm) XB TB D9 rfl (by ktr_room) (by ktr_units) (by rw [List.length_take]; omega) hU (fun _ _ e => nomatch e) (fun u h₁ h' tk' _ T5 F5 N5 B5 => ?_) (fun _ _ _ _ e => nomatch e) (fun _ _ _ _ _ _ _ e => nomatch e)
  clear F2 N2 B2
  have X5 : (Mine.hd.heap_39 w.params).In h₁ := XB.keeps B5.stays
  have TP5 : Top VW LW mean mg mb h₁ := TB.keeps B5.stays
  repeat' (first | walk1 | (k_unfold; (try dsimp only)) | (dsimp only; walk1))
  rename Fr _ _ _ _ => F7
  exact hturn _ _ _ _ _ _ G9 T5 F7
end Mine
end
section
open PySem PySem.W PyProof.Rows PySem.Calls PyProof.Rows.LCg
set_option maxRecDepth 100000
namespace Mine
set_option linter.unusedVariables false
section
variable {prog : Program} {w : World} {A : Around} {s : Shared} {h₀ : Heap} {env : Env} {L : Addr}
/-- a loop by what holds between its turns; I the iterator -/
def LoopI (prog : Program) (w : World) (A : Around) (h₀ : Heap) (L : Addr) (env : Env) (target : Expr) (body orelse : List Stmt) (Q : Flow → Shared → Prop) (s : Shared) (fx : List (Addr × Obj)) (I : Addr) (n : Nat) (P : Nat → Value → Prop) (m : Str → Option Value) (news : List (Addr × Obj)) : Prop :=
  ∃ J : Nat → (Str → Option Value) → List (Addr × Obj) → Prop, J 0 m news ∧ (∀ i m news, J i m news → (∀ p ∈ fx, p ∈ news ∨ h₀.get? p.1 = some p.2) ∧ (∀ p ∈ news, p.1 ≠ I)) ∧
    (∀ i v m₁ news₁ h tk oI, i < n → P i v → J i m₁ news₁ → Fr h₀ L h m₁ → News h₀ L h ((I, oI) :: news₁) →
      wpAny (model prog w) A (assign target env v) (fun _ s₂ => wpAny (model prog w) A (execs body env) (Turned h₀ L [(I, oI)] (J (i + 1)) s Q) (fun _ _ => False) s₂) (fun _ _ => False) { s with heap := h, toks := tk }) ∧
    (∀ m₁ news₁ h tk, J n m₁ news₁ → Fr h₀ L h m₁ → News h₀ L h news₁ → wpAny (model prog w) A (execs orelse env) Q (fun _ _ => False) { s with heap := h, toks := tk })
theorem Turned.state {own : List (Addr × Obj)} {Jn : (Str → Option Value) → List (Addr × Obj) → Prop} {s s' s₃ : Shared} {Q : Flow → Shared → Prop} {f : Flow} (e : ∃ h tk, s' = { s with heap := h, toks := tk }) (h : Turned h₀ L own Jn s Q f s₃) : Turned h₀ L own Jn s' Q f s₃ := by
  obtain ⟨h', tk', rfl⟩ := e
  cases f with
  | brk => exact h
  | ret v => exact h
  | next => exact h
  | cont => exact h
theorem for_range {Q : Flow → Shared → Prop} {target : Expr} {body orelse : List Stmt} {r : Addr} {k : Int} {t u v : Tok} {m : Str → Option Value} {news : List (Addr × Obj)} (hh : A.handled = none) (hEL : env.locals = L)
    (F : Fr h₀ L s.heap m) (N : News h₀ L s.heap news) (hr : IsRange s.heap r 0 k 1 t u v) (hk0 : 0 ≤ k) (hk1 : k ≤ 1000) (ht : ∀ it v, letOwnedTupleGo target it v = pure ())
    (body_ : ∀ I, (∀ p ∈ news, p.1 < I) → LoopI prog w A h₀ L env target body orelse Q s [] I k.toNat (fun i v => ∃ t, v = .int (0 + (i : Int)) t) m news) :
    wpAny (model prog w) A (pyIter (.ref r)) (fun it s₂ => codeAny (model prog w) A (.forLoop target it body orelse env) (fun r s' => match r with | .ok f => Q f s' | .error e => cameBackBy (model prog w) A env (fun _ _ => False) e s') s₂) (fun _ _ => False) s := by
  refine wpAny_pyIter_range hr (small_one (by omega) (by omega) (by omega) (by omega)) ?_
  have hsz : Builtin.Range.rangeSize 0 k 1 = ((k.toNat : Nat) : Int) := by rw [rangeSize_nat]; omega
  rw [hsz]
  obtain ⟨J, h0, hfx, turn, fin⟩ := body_ s.heap.objs.size fun p hp => Heap.lt_size (N p hp).1
  have z1 := F.above
  have z2 := F.ns.lt
  have st : IsRangeIter (s.heap.push { cls := .type "range_iterator", data := .fields #[rawInt 0, rawInt ((k.toNat : Nat) : Int), rawInt 1] }) s.heap.objs.size (0 + ((0 : Nat) : Int) * 1) (((k.toNat : Nat) : Int) - ((0 : Nat) : Int)) 1 := by
    show Heap.get? _ _ = some _
    have := Heap.get?_push_size s.heap (o := { cls := .type "range_iterator", data := .fields #[rawInt 0, rawInt ((k.toNat : Nat) : Int), rawInt 1] }) rfl
    simpa using this
  refine for_walks (fx := []) (L := L) hEL (range_walks hh 0 k.toNat) (Nat.ne_of_lt z2) (Heap.get?_none_of_le (Nat.le_trans z1 (Nat.le_of_lt z2))) st (F.push _) (News.pushKeep N _) J h0 (fun i m news hj => hfx i m news hj)
    (fun i v s R E _ h => wpAny_of_eq (ht _ _) h) (fun i h st => ⟨_, st⟩) (fun i v m₁ news₁ h tk oI hi hP hJ F₁ N₁ => ?_) (fun m₁ news₁ h tk hJ F₁ N₁ => fin m₁ news₁ h tk hJ F₁ N₁)
  exact wpAny_mono (turn i v m₁ news₁ h tk oI hi hP hJ F₁ N₁) (fun _ _ x => wpAny_mono x (fun _ _ y => Turned.state ⟨_, _, rfl⟩ y) fun _ _ e => e) fun _ _ e => e
theorem for_list {Q : Flow → Shared → Prop} {target : Expr} {body orelse : List Stmt} {l : Addr} {lo : Obj} {items : Array Value} {m : Str → Option Value} {news : List (Addr × Obj)} (hh : A.handled = none) (hEL : env.locals = L)
    (F : Fr h₀ L s.heap m) (N : News h₀ L s.heap news) (hl : (l, lo) ∈ news) (hlo : ∀ h : Heap, h.get? l = some lo → h.IsList l items) (ht : ∀ i I (v : Value) (s : Shared) (R : Unit → Shared → Prop) (E : Value → Shared → Prop), s.heap.IsListIter I l i → R () s → wpAny (model prog w) A (letOwnedTupleGo target (.ref I) v) R E s)
    (body_ : ∀ I, (∀ p ∈ news, p.1 < I) → LoopI prog w A h₀ L env target body orelse Q s [(l, lo)] I items.size (fun i v => items[i]? = some v) m news) :
    wpAny (model prog w) A (pyIter (.ref l)) (fun it s₂ => codeAny (model prog w) A (.forLoop target it body orelse env) (fun r s' => match r with | .ok f => Q f s' | .error e => cameBackBy (model prog w) A env (fun _ _ => False) e s') s₂) (fun _ _ => False) s := by
  have hls := hlo _ (N _ hl).1
  refine wpAny_pyIter_list hls ?_
  obtain ⟨J, h0, hfx, turn, fin⟩ := body_ s.heap.objs.size fun p hp => Heap.lt_size (N p hp).1
  have z1 := F.above
  have z2 := F.ns.lt
  have z3 := Heap.lt_size (N _ hl).1
  have st : (s.heap.push { cls := .type "list_iterator", data := .fields #[.ref l, .int 0 0] }).IsListIter s.heap.objs.size l 0 ∧ (s.heap.push { cls := .type "list_iterator", data := .fields #[.ref l, .int 0 0] }).IsList l items :=
    ⟨⟨_, Heap.get?_push_size _ rfl, rfl, rfl⟩, hls.at fun o e => Heap.get?_push_of_some _ e⟩
  refine for_walks (fx := [(l, lo)]) (L := L) hEL (Walks.list hh s.heap.objs.size l (Nat.ne_of_lt z3) items) (Nat.ne_of_lt z2) (Heap.get?_none_of_le (Nat.le_trans z1 (Nat.le_of_lt z2))) st (F.push _) (News.pushKeep N _) J h0 (fun i m news hj => hfx i m news hj)
    (fun i v s R E st h => ht i _ v s R E st.1 h) (fun i h st => let ⟨o, ho, _⟩ := st.1; ⟨o, ho⟩) (fun i v m₁ news₁ h tk oI hi hP hJ F₁ N₁ => ?_) (fun m₁ news₁ h tk hJ F₁ N₁ => fin m₁ news₁ h tk hJ F₁ N₁)
  exact wpAny_mono (turn i v m₁ news₁ h tk oI hi hP hJ F₁ N₁) (fun _ _ x => wpAny_mono x (fun _ _ y => Turned.state ⟨_, _, rfl⟩ y) fun _ _ e => e) fun _ _ e => e
end
end Mine
end
section
open PySem PySem.W PyProof.Rows PySem.Calls PyProof.Rows.LCg
set_option maxRecDepth 100000
namespace Mine
set_option linter.unusedVariables false
section
variable {prog : Program} {w : World} {A : Around} {E : Value → Shared → Prop} {s : Shared} {h₀ : Heap} {L l : Addr} {m : Str → Option Value} {news : List (Addr × Obj)} {vs : List Value}
theorem lenR {Q : Value → Shared → Prop} (hl : s.heap.IsList l vs.toArray) (hz : vs.length ≤ 16777216) (h : ∀ t k, Q (.int (vs.length : Nat) t) { s with toks := k }) : wpAny (model prog w) A (call (.builtin "len") [.ref l]) Q E s :=
  call_len_list hl (by simp; omega) (h _ _)
theorem truthR {Q : Bool → Shared → Prop} (hl : s.heap.IsList l vs.toArray) (hz : vs.length ≤ 16777216) (h : ∀ k, Q (decide (vs ≠ [])) { s with toks := k }) : wpAny (model prog w) A (truthy (.ref l)) Q E s := by
  refine wpAny_truthy_list hl (by simp; omega) ?_
  have e : (!vs.toArray.isEmpty) = decide (vs ≠ []) := by cases vs <;> simp
  rw [e]; exact h _
theorem itemR {value slice : PySem.Expr} {x : Value} {k : Int} {t : Tok} {Q : Value → Shared → Prop} (hl : s.heap.IsList l vs.toArray) (h0 : 0 ≤ k) (h1 : k < 16777216) (hx : vs[k.toNat]? = some x) (h : Q x s)
    (hs : subscripted slice false (.ref l) (.int k t) = operate [.ref l, .int k t] (getItem (.ref l) (.int k t)) := by with_unfolding_all rfl) : wpAny (model prog w) A (subscriptTail value slice (.ref l) (.int k t)) Q E s :=
  tail_any hl.typeIs slot_list_getitem.lookup (wpAny_getItem_list hl h0 (by omega) (by simpa using hx) h) hs
theorem kms_from (vs : List Value) (i : Nat) : kms_pick (List.toArray vs).toList (some ((i : Nat) : Int)) none = vs.drop i := by
  unfold kms_pick kms_lo kms_hi
  have h : ¬ ((i : Nat) : Int) < 0 := by omega
  simp only [h, if_false, Int.toNat_natCast]
  rw [kmk_drop_min]
  exact List.take_of_length_le (by simp; omega)
theorem kms_to (vs : List Value) (i : Nat) : kms_pick (List.toArray vs).toList none (some ((i : Nat) : Int)) = vs.take i := by
  unfold kms_pick kms_lo kms_hi
  have h : ¬ ((i : Nat) : Int) < 0 := by omega
  simp only [h, if_false, Int.toNat_natCast, List.drop_zero, Nat.sub_zero]
  exact kmk_take_min _ _
theorem kms_fromI (vs : List Value) {x : Int} (h : 0 ≤ x) : kms_pick (List.toArray vs).toList (some x) none = vs.drop x.toNat := by
  obtain ⟨i, rfl⟩ := Int.eq_ofNat_of_zero_le h
  rw [Int.toNat_natCast]; exact kms_from vs i
theorem cutR {value slice : PySem.Expr} {zs : List Value} {vl vu : Value} {lo hi : Option Int} {Q : Value → Shared → Prop} (F : Fr h₀ L s.heap m) (N : News h₀ L s.heap news) (hl : s.heap.IsList l vs.toArray) (pl : IsPart vl lo) (pu : IsPart vu hi) (e : kms_pick (List.toArray vs).toList lo hi = zs)
    (h : ∀ D h', Fr h₀ L h' m → News h₀ L h' ((D, listOf zs.toArray 0) :: news) → (∀ p ∈ news, p.1 < D) → Q (.ref D) { s with heap := h' })
    (hs : subscripted slice false (.ref l) (.ref s.heap.objs.size) = operate [.ref s.heap.objs.size, .ref l] (getItem (.ref l) (.ref s.heap.objs.size))) (ht : ∀ r, letTemporaryGo value (.ref l) r = pure ()) (hz : vs.length ≤ 16777216) :
    wpAny (model prog w) A (subscriptTail value slice (.ref l) (.ref s.heap.objs.size)) Q E { s with heap := s.heap.push { cls := .type "slice", data := .fields #[vl, vu, .none] } } :=
  kms_slice_lit F N hl pl pu e h hs ht (by simp [sizeLine_eq]; exact hz)
theorem appR {D : Addr} {n : Nat} {x : Value} {g : Obj → List (Addr × Obj)} {Q : Value → Shared → Prop} (F : Fr h₀ L s.heap m) (N : News h₀ L s.heap news) (U : UpdF D (listOf vs.toArray n) news g) (hz : vs.length ≤ 16777216)
    (h : ∀ h', Fr h₀ L h' m → News h₀ L h' (g (listOf (vs ++ [x]).toArray (n + 1))) → Q .none { s with heap := h' }) : wpAny (model prog w) A (call (.builtin "list.append") [.ref D, x]) Q E s := by
  obtain ⟨pre, post, rfl, hg, a, b⟩ := U.split
  have z := N (D, _) (List.mem_append.mpr (.inr (.head _)))
  refine append_at (hsz := by simp [sizeLine_eq]; exact hz) z.1 fun h' hs ho' => h h' (F.change hs z.2.1 z.2.2) ?_
  rw [hg]
  refine news_set N a b hs ?_
  rw [ho']
  simp
/-- back from a call that made new things and changed one of the ledger -/
theorem back_new {h g h' : Heap} {L' d : Addr} {m' : Str → Option Value} {o o' : Obj} {gg : Obj → List (Addr × Obj)} {new : List (Addr × Obj)} (F : Fr h₀ L h m) (N : News h₀ L h news) (U : UpdF d o news gg) (G : GSub h g [d]) (F9 : Fr g L' h' m') (N9 : News g L' h' new) (hd : h'.get? d = some o') (hne : ∀ q ∈ new, q.1 ≠ d) :
    Fr h₀ L h' m ∧ News h₀ L h' (new ++ gg o') ∧ ∀ q ∈ new, ∀ p ∈ news, p.1 ≠ q.1 := by
  have K : Kept [d] h h' := fun b o e n => F9.keep b o (G b o e n)
  obtain ⟨F1, N1⟩ := upd_after F N U K hd
  have hdn := N _ (UpdF.mem U)
  have hno : ∀ q ∈ new, ∀ b o, h.get? b = some o → b ≠ q.1 := by
    intro q hq b o e hb
    by_cases hbd : b = d
    · exact hne q hq (hb ▸ hbd)
    · have := G b o e (by simpa using hbd)
      rw [hb, (N9 q hq).2.2] at this; cases this
  refine ⟨F1, fun p hp => ?_, fun q hq p hp => hno q hq _ _ (N p hp).1⟩
  rcases List.mem_append.mp hp with hp | hp
  · refine ⟨(N9 p hp).1, fun e => ?_, ?_⟩
    · obtain ⟨oL, es, ep, hL, _⟩ := F.ns
      exact hno p hp L oL hL e.symm
    · cases q : h₀.get? p.1 with
      | none => rfl
      | some o => exact absurd rfl (hno p hp _ _ (F.keep _ _ q))
  · exact N1 p hp
end
end Mine
end
section
open PySem PySem.W PyProof.Rows
namespace Mine
set_option linter.unusedVariables false
def sw (c : Nat) : Nat := if 65 ≤ c ∧ c ≤ 90 then c + 32 else if 97 ≤ c ∧ c ≤ 122 then c - 32 else c
theorem ok_cases {c : Nat} (h : okCp c = true) : c = 97 ∨ c = 98 ∨ c = 65 ∨ c = 66 ∨ c = 48 ∨ c = 57 ∨ c = 45 ∨ c = 122 ∨ c = 90 ∨ c = 109 ∨ c = 77 := by
  simpa only [okCp, Bool.or_eq_true, beq_iff_eq, or_assoc] using h
theorem sw_at {cps : Array Nat} {i c : Nat} (h : cps[i]? = some c) (hc : okCp c = true) : (if Unicode.isUpper c then Unicode.lowerAt cps i else if Unicode.isLower c then Unicode.upperOf c else [c]) = [sw c] := by
  have hl : Unicode.lowerAt cps i = if c == 0x3A3 && Unicode.endsWord cps i then [0x3C2] else Unicode.lowerOf c := by
    unfold Unicode.lowerAt; rw [h]
  rw [hl]
  clear hl h
  rcases ok_cases hc with h | h | h | h | h | h | h | h | h | h | h <;> subst h <;> (simp only [show ∀ b, ((97 : Nat) == 0x3A3 && b) = false from fun b => rfl, show ∀ b, ((98 : Nat) == 0x3A3 && b) = false from fun b => rfl, show ∀ b, ((65 : Nat) == 0x3A3 && b) = false from fun b => rfl, show ∀ b, ((66 : Nat) == 0x3A3 && b) = false from fun b => rfl, show ∀ b, ((48 : Nat) == 0x3A3 && b) = false from fun b => rfl, show ∀ b, ((57 : Nat) == 0x3A3 && b) = false from fun b => rfl, show ∀ b, ((45 : Nat) == 0x3A3 && b) = false from fun b => rfl, show ∀ b, ((122 : Nat) == 0x3A3 && b) = false from fun b => rfl, show ∀ b, ((90 : Nat) == 0x3A3 && b) = false from fun b => rfl, show ∀ b, ((109 : Nat) == 0x3A3 && b) = false from fun b => rfl, show ∀ b, ((77 : Nat) == 0x3A3 && b) = false from fun b => rfl]; decide +kernel)
theorem swap_eq {x : Str} (h : okL x.cps.toList = true) : Txt.swapcase x = sOf (x.cps.toList.map sw) := by
  unfold Txt.swapcase
  rw [placed_single x _ sw fun i c hc => ?_]
  · rw [sOf, ← Array.toList_map, Array.toArray_toList]
  · have hc' : x.cps[i]? = some c := by simpa using hc
    exact sw_at hc' (List.all_eq_true.mp h c (List.mem_of_getElem? hc))
theorem swap_label {x : Str} (h : Label x) : Label (Txt.swapcase x) ∧ (Txt.swapcase x).length ≤ 54 := by
  obtain ⟨h1, h2, h3⟩ := h
  rw [swap_eq h1]
  refine ⟨⟨?_, ?_, ?_⟩, ?_⟩
  · rw [sOf_cps, List.toList_toArray]
    unfold okL at h1 ⊢
    rw [List.all_map]
    refine List.all_eq_true.mpr fun c hc => ?_
    have := List.all_eq_true.mp h1 c hc
    rcases ok_cases this with h | h | h | h | h | h | h | h | h | h | h <;> subst h <;> rfl
  · simpa [sOf_cps] using h2
  · simpa [sOf_cps] using h3
  · rw [sOf_len]; simpa using h3
end Mine
end
section
open PySem PySem.W PyProof.Rows PyProof.Rows.LCg
namespace Mine
local macro_rules | `(tactic| k_all) => `(tactic| assumption)
set_option linter.unusedVariables false


theorem m_at1 {m : Str → Option Value} {x1 : Str} {v1 : Value} (h1 : m x1 = some v1) : m = fun y => if y = x1 then some v1 else m y := by
  funext y
  split
  · subst y; assumption
  · rfl
/-- the names: an address, its labels, the count of its changes -/
abbrev NL := List (Addr × List (Str × Tok) × Nat)
def tailOf (ns : NL) : List (Addr × Obj) := ns.map fun e => (e.1, listOf (strValues e.2.1).toArray e.2.2)
def refsOf (ns : NL) : List Value := ns.map fun e => .ref e.1
def NOk (ns : NL) : Prop := ∀ e ∈ ns, e.2.1.length ≤ 4 ∧ ∀ p ∈ e.2.1, Label p.1
theorem frNames2 {g h : Heap} {L : Addr} {m : Str → Option Value} (F : Fr g L h m) : ∃ g' L', g' = g ∧ L' = L := ⟨g, L, rfl, rfl⟩
theorem newsName2 {g h : Heap} {L a : Addr} {o : Obj} {r : List (Addr × Obj)} (N : News g L h ((a, o) :: r)) : ∃ a', a' = a := ⟨a, rfl⟩
theorem newsObjs {g h : Heap} {L a b c : Addr} {o o1 o2 : Obj} {r : List (Addr × Obj)} (N : News g L h ((a, o) :: (b, o1) :: (c, o2) :: r)) : ∃ o1' o2', o1' = o1 ∧ o2' = o2 := ⟨o1, o2, rfl, rfl⟩
theorem ns_le {j n : Nat} {r : Int} (h0 : 0 ≤ r) (h1 : r < 6) (h2 : j < (1 + r).toNat) (h3 : n = j) : n ≤ 6 := by omega
theorem ns_end {n : Nat} {r : Int} (h0 : 0 ≤ r) (h1 : r < 6) (h3 : n = (1 + r).toNat) : 1 ≤ n ∧ n ≤ 6 := by omega
theorem lb_le {n : Nat} {r : Int} (h1 : r < 5) (h3 : n = r.toNat) : n ≤ 4 := by omega
def LabsJ (i : Nat) (ys : List Value) : Prop := ∃ l : List (Str × Tok), ys = strValues l ∧ l.length = i ∧ ∀ p ∈ l, Label p.1
theorem tailOf_snoc (ns : NL) (e : Addr × List (Str × Tok) × Nat) : tailOf (ns ++ [e]) = tailOf ns ++ [(e.1, listOf (strValues e.2.1).toArray e.2.2)] := by simp [tailOf]
theorem refsOf_snoc (ns : NL) (e : Addr × List (Str × Tok) × Nat) : refsOf (ns ++ [e]) = refsOf ns ++ [.ref e.1] := by simp [refsOf]
theorem strValues_take (l : List (Str × Tok)) (n : Nat) : strValues (l.take n) = (strValues l).take n := by simp [strValues, List.map_take]
theorem strValues_drop (l : List (Str × Tok)) (n : Nat) : strValues (l.drop n) = (strValues l).drop n := by simp [strValues, List.map_drop]
theorem strValues_append (l r : List (Str × Tok)) : strValues (l ++ r) = strValues l ++ strValues r := by simp [strValues]
theorem strValues_length (l : List (Str × Tok)) : (strValues l).length = l.length := by simp [strValues]
theorem NOk_snoc {ns : NL} {e : Addr × List (Str × Tok) × Nat} (h : NOk ns) (h1 : e.2.1.length ≤ 4) (h2 : ∀ p ∈ e.2.1, Label p.1) : NOk (ns ++ [e]) := by
  intro x hx
  rcases List.mem_append.mp hx with hx | hx
  · exact h x hx
  · rw [List.mem_singleton.mp hx]; exact ⟨h1, h2⟩
theorem item_refs {prog : Program} {w : World} {A : Around} {E : Value → Shared → Prop} {s : Shared} {l : Addr} {value slice : PySem.Expr} {ns : NL} {k : Int} {t : Tok} {Q : Value → Shared → Prop} (hl : s.heap.IsList l (refsOf ns).toArray) (h0 : 0 ≤ k) (h1 : k < (ns.length : Nat)) (hz : ns.length ≤ 1000) (h : ∀ e ∈ ns, Q (.ref e.1) s)
    (hs : subscripted slice false (.ref l) (.int k t) = operate [.ref l, .int k t] (getItem (.ref l) (.int k t)) := by with_unfolding_all rfl) : wpAny (model prog w) A (subscriptTail value slice (.ref l) (.int k t)) Q E s := by
  have hk : k.toNat < ns.length := by omega
  refine itemR hl h0 (by omega) (x := .ref (ns[k.toNat]'hk).1) (by simp [refsOf, hk]) (h _ (List.getElem_mem hk)) hs
/-- what a turn of _law_names finds -/
inductive NamesJ (st sc fl cs cf I : Addr) (os : Obj) (i : Nat) (m : Str → Option Value) (news : List (Addr × Obj)) : Prop
  | mk (i' x' : Int) (ti tx : Tok) (c : Nat) (of : Obj) (vf : Option Value) (ns : NL) (f1 : m (Str.ofString "found") = some (.ref fl)) (f2 : news = (fl, listOf (refsOf ns).toArray c) :: (cf, of) :: (cs, os) :: (st, stObj sc i' ti x' tx) :: tailOf ns) (f3 : of.data = .cell vf) (f4 : 0 ≤ i') (f5 : 0 ≤ x') (f6 : x' < 2147483647) (f7 : NOk ns) (f8 : ns.length = i) (f9 : ∀ p ∈ tailOf ns, p.1 ≠ st ∧ p.1 ≠ fl ∧ p.1 ≠ cs ∧ p.1 ≠ cf ∧ p.1 ≠ I) : NamesJ st sc fl cs cf I os i m news
theorem names_end {s : Shared} {Q : Flow → Shared → Prop} {g h : Heap} {L : Addr} {m : Str → Option Value} {all : List (Addr × Obj)} {st sc fl cs cf I D4 : Addr} {oI of os : Obj} {ns : NL} {c j : Nat} {i' x' : Int} {ti tx : Tok} {l4 : List (Str × Tok)} {vf : Option Value} {tk : Nat} (F : Fr g L h m) (N : News g L h all) (hm : m (Str.ofString "found") = some (.ref fl))
    (h1 : (I, oI) ∈ all) (h2 : (fl, listOf (refsOf ns ++ [Value.ref D4]).toArray (c + 1)) ∈ all) (h3 : (cf, of) ∈ all) (h4 : (cs, os) ∈ all) (h5 : (st, stObj sc i' ti x' tx) ∈ all) (h6 : (D4, listOf (strValues l4).toArray 0) ∈ all) (h7 : ∀ p ∈ tailOf ns, p ∈ all) (hof : of.data = .cell vf)
    (b1 : 0 ≤ i') (b2 : 0 ≤ x') (b3 : x' < 2147483647) (j6 : NOk ns) (hl4 : l4.length ≤ 4) (hlb : ∀ p ∈ l4, Label p.1) (j7 : ns.length = j) (j8 : ∀ p ∈ tailOf ns, p.1 ≠ st ∧ p.1 ≠ fl ∧ p.1 ≠ cs ∧ p.1 ≠ cf ∧ p.1 ≠ I) (hD : D4 ≠ st ∧ D4 ≠ fl ∧ D4 ≠ cs ∧ D4 ≠ cf ∧ D4 ≠ I) :
    Turned g L [(I, oI)] (NamesJ st sc fl cs cf I os (j + 1)) s Q .next { s with heap := h, toks := tk } := by
  refine ⟨h, tk, m, (fl, listOf (refsOf (ns ++ [(D4, l4, 0)])).toArray (c + 1)) :: (cf, of) :: (cs, os) :: (st, stObj sc i' ti x' tx) :: tailOf (ns ++ [(D4, l4, 0)]), rfl, F, News.sub N (fun p hp => ?_), i', x', ti, tx, c + 1, of, vf, ns ++ [(D4, l4, 0)], hm, rfl, hof, b1, b2, b3, NOk_snoc j6 hl4 hlb, by simp [j7], fun p hp => ?_⟩
  · rw [tailOf_snoc, refsOf_snoc] at hp
    simp only [List.cons_append, List.nil_append, List.mem_cons, List.mem_append, List.not_mem_nil, or_false] at hp
    rcases hp with hp | hp | hp | hp | hp | hp | hp
    · exact hp ▸ h1
    · exact hp ▸ h2
    · exact hp ▸ h3
    · exact hp ▸ h4
    · exact hp ▸ h5
    · exact h7 p hp
    · exact hp ▸ h6
  · rw [tailOf_snoc] at hp
    rcases List.mem_append.mp hp with hp | hp
    · exact j8 p hp
    · rw [List.mem_singleton.mp hp]; exact hD
/-- what the loop of _law_names leaves -/
inductive NamesQ (s : Shared) (g : Heap) (L st sc : Addr) (f : Flow) (s' : Shared) : Prop
  | mk (f1 : f = .next) (h : Heap) (tk : Nat) (m : Str → Option Value) (i' x' : Int) (ti tx : Tok) (c : Nat) (fl : Addr) (ns : NL) (f2 : s' = { s with heap := h, toks := tk }) (f3 : Fr g L h m) (f4 : News g L h ((fl, listOf (refsOf ns).toArray c) :: (st, stObj sc i' ti x' tx) :: tailOf ns)) (f5 : m (Str.ofString "found") = some (.ref fl)) (f6 : 0 ≤ i') (f7 : 0 ≤ x') (f8 : x' < 2147483647) (f9 : NOk ns) (f10 : 1 ≤ ns.length) (f11 : ns.length ≤ 6) (f12 : fl ≠ st) (f13 : ∀ p ∈ tailOf ns, p.1 ≠ st ∧ p.1 ≠ fl) : NamesQ s g L st sc f s'
set_option maxRecDepth 100000 in
set_option maxHeartbeats 4000000 in
theorem names_call {w : World} {mean : ExcName → Option Value} {mg mb : Str → Option Value} {dp un : Nat} {gd : Option (List Code)} {cn : Str} {cs : Scope} {a : Addr} {ccd : Value} {cl : List (Str × Addr)} {outer : List Env} {A₀ : Around} {base h₀ : Heap} {L : Addr}
    {m : Str → Option Value} {s : Shared} {Q E : Value → Shared → Prop} {st sc : Addr} {vs : List Value} {ns : List Int} {i x : Int} {ti tx : Tok} {news : List (Addr × Obj)} {g : Obj → List (Addr × Obj)}
    (B : Below A₀ base outer h₀) (F : Fr h₀ L s.heap m) (X : (Mine.hd.heap_39 w.params).In h₀) (N : News h₀ L s.heap news) (T : Top VW LW mean mg mb h₀) (hk : cs.kind = .function)
    (hl : base.IsList sc vs.toArray) (hi : IntsAre vs ns) (hn : ns.length ≤ 63) (U : UpdF st (stObj sc i ti x tx) news g) (h0 : 0 ≤ i) (hx0 : 0 ≤ x) (hx1 : x < 2147483647)
    (hd : dp + 3 < recursionLimit) (hu : un + 24 < cLine)
    (hret : ∀ fl (nl : NL) c i' x' ti' tx' h' tk', NOk nl → 1 ≤ nl.length → nl.length ≤ 6 → 0 ≤ i' → 0 ≤ x' → x' < 2147483647 → Fr h₀ L h' m → News h₀ L h' (((fl, listOf (refsOf nl).toArray c) :: tailOf nl) ++ g (stObj sc i' ti' x' tx')) →
      (∀ q ∈ (fl, listOf (refsOf nl).toArray c) :: tailOf nl, ∀ p ∈ news, p.1 ≠ q.1) → (∀ q ∈ tailOf nl, q.1 ≠ fl) → Q (.ref fl) { s with heap := h', toks := tk' }) :
    wpAny (model PR w) (ktrTop dp un gd cn cs L a ccd cl outer) (call (.ref 122) [.ref st]) Q E s := by
  have hret' : ∀ g' L' m' fl (nl : NL) c i' x' ti' tx' h' tk', GSub s.heap g' ([(st, stObj sc i ti x tx)].map (·.1)) → Fr g' L' h' m' → News g' L' h' ((fl, listOf (refsOf nl).toArray c) :: (st, stObj sc i' ti' x' tx') :: tailOf nl) → 0 ≤ i' → 0 ≤ x' → x' < 2147483647 → NOk nl → 1 ≤ nl.length → nl.length ≤ 6 → fl ≠ st → (∀ p ∈ tailOf nl, p.1 ≠ st ∧ p.1 ≠ fl) → Q (.ref fl) { s with heap := h', toks := tk' } := by
    intro g' L' m' fl nl c i' x' ti' tx' h' tk' hG hF hN b1 b2 b3 b4 b5 b6 b7 b8
    obtain ⟨a1, a2, a3⟩ := back_new (new := (fl, listOf (refsOf nl).toArray c) :: tailOf nl) F N U hG hF (News.sub hN (fun p hp => by
      rcases List.mem_cons.mp hp with rfl | hp
      · exact .head _
      · exact .tail _ (.tail _ hp))) (hN (st, _) (.tail _ (.head _))).1 (fun q hq => by
      rcases List.mem_cons.mp hq with rfl | hq
      · exact b7
      · exact (b8 q hq).1)
    exact hret fl nl c i' x' ti' tx' h' tk' b4 b5 b6 b1 b2 b3 a1 a2 a3 fun q hq => (b8 q hq).2
  replace N : News h₀ L s.heap [(st, stObj sc i ti x tx)] := News.sub N (by simpa using UpdF.mem U)
  clear U hret
  refine wpAny_call ?_
  k_dflt (first   | (refine' code_defR ?zzk1 ?zzk2 ?zzk3 ?zzk4 ?zzk5 ?zzkA ?zzkF ?zzkK ?zzk6 ?zzk7 ?zzk8 ?zzk9 ?zzkB ?_ ?zzc2 ?zzc3 ?zzc4 ?zzc5; (case zzkA => exact rfl); (case zzkF => exact rfl); (case zzkK => assumption); (case zzk1 => k_asm); (case zzk2 => k_asm); (case zzk3 => k_asm); (case zzk4 => k_asm); (case zzk5 => k_asm); (case zzk6 => k_is); (case zzk7 => k_is); (case zzk8 => ktr_room); (case zzk9 => exact BindsTo.of_eq rfl); (case zzc5 => decide); (case zzkB => exact locs rfl); (case zzc2 => exact rfl); (case zzc3 => exact rfl); (case zzc4 => exact rfl); k_whole; intro zg zL zh zG zlL zF zN zB zX zT; (try dsimp only); (try k_lift zB); (try k_fold))   | (refine' code_defCR ?zzk1 ?zzk2 ?zzk3 ?zzk4 ?zzk5 ?zzkA ?zzkF ?zzkK ?zzk6 ?zzk7 ?zzk8 ?zzk9 ?zzkB ?zzkD ?_ ?zzc2 ?zzc3 ?zzc4; (case zzkA => exact rfl); (case zzkF => exact rfl); (case zzkK => assumption); (case zzk1 => k_asm); (case zzk2 => k_asm); (case zzk3 => k_asm); (case zzk4 => k_asm); (case zzk5 => k_asm); (case zzk6 => k_is); (case zzk7 => k_is); (case zzk8 => ktr_room); (case zzk9 => exact BindsTo.of_eq rfl); (case zzkB => exact rfl); (case zzkD => decide +kernel); (case zzc2 => exact rfl); (case zzc3 => exact rfl); (case zzc4 => exact rfl); k_whole; intro zg zL zh ztk zcells zG zlL zF zN zY zB zX zT zl1; (try k_lt zl1); k_cells zY; (try simp only [List.cons_append, List.nil_append] at zN); (try dsimp only); (try k_lift zB); (try k_fold)))
  clear N F
  repeat' (first | ((fail_if_success (with_reducible show wpAny _ _ (exec (Stmt.For ..) _) _ _ _)); first | ((with_reducible show wpAny _ _ (call (Value.ref 117) _) _ _ _); k_dflt (refine' label_call ?zzB ?zzF ?zzX ?zzN ?zzT ?zzhk ?zzhl ?zzhi ?zzhn ?zzU ?zzh0 ?zzhx0 ?zzhx1 ?zzhd ?zzhu ?_; (case zzB => k_asm); (case zzF => k_asm); (case zzX => k_asm); (case zzN => k_asm); (case zzT => k_asm); (case zzhk => exact rfl); (case zzU => k_updF); (case zzhl => k_asm); (case zzhi => k_asm); (case zzhn => k_asm); (case zzh0 => omega); (case zzhx0 => omega); (case zzhx1 => omega); (case zzhd => ktr_room); (case zzhu => ktr_units)); (try clear zb3); (try clear zb4); (try clear zb5); intro zr zu zi zx zti ztx zh ztk zb1 zb3 zb4 zb5 zF zN; (try dsimp only at zN); (try k_sweep)) | ((with_reducible show wpAny _ _ (call (Value.ref 107) _) _ _ _); k_dflt (refine' next_call ?zzB ?zzF ?zzX ?zzN ?zzT ?zzhk ?zzhl ?zzhi ?zzhn ?zzU ?zzh0 ?zzhx0 ?zzhx1 ?zzhk0 ?zzhd ?zzhu ?_; (case zzB => k_asm); (case zzF => k_asm); (case zzX => k_asm); (case zzN => k_asm); (case zzT => k_asm); (case zzhk => exact rfl); (case zzU => k_updF); (case zzhl => k_asm); (case zzhi => k_asm); (case zzhn => k_asm); (case zzh0 => omega); (case zzhx0 => omega); (case zzhx1 => omega); (case zzhk0 => omega); (case zzhd => ktr_room); (case zzhu => ktr_units)); (try clear zb3); (try clear zb4); (try clear zb5); intro zr zu zi zx zti ztx zh ztk zb1 zb2 zb3 zb4 zb5 zF zN; (try dsimp only at zN); (try k_sweep)) | (k_unfold; (try dsimp only)) | walk1 | dsimp only) | fail "no step")
  rename News _ _ _ _ => N9
  rename Fr _ _ _ _ => F9
  obtain ⟨of, os, eof, eos⟩ := newsObjs N9
  subst eof; subst eos
  have d2' : os.data = Data.cell (some (Value.ref st)) := by assumption
  have d1' : of.data = Data.cell none := by assumption
  obtain ⟨gg, LL, eg, eL⟩ := frNames2 F9
  subst eg; subst eL
  obtain ⟨fl, efl⟩ := newsName2 N9
  subst efl
  refine wpAny_mono (Q := NamesQ s gg LL st sc) (E := fun _ _ => False) ?_ ?_ (fun _ _ h => h.elim)
  · refine wpAny_For ?_
    repeat' (first | ((fail_if_success (with_reducible show wpAny _ _ (pyIter _) _ _ _)); first | ((with_reducible show wpAny _ _ (call (Value.ref 117) _) _ _ _); k_dflt (refine' label_call ?zzB ?zzF ?zzX ?zzN ?zzT ?zzhk ?zzhl ?zzhi ?zzhn ?zzU ?zzh0 ?zzhx0 ?zzhx1 ?zzhd ?zzhu ?_; (case zzB => k_asm); (case zzF => k_asm); (case zzX => k_asm); (case zzN => k_asm); (case zzT => k_asm); (case zzhk => exact rfl); (case zzU => k_updF); (case zzhl => k_asm); (case zzhi => k_asm); (case zzhn => k_asm); (case zzh0 => omega); (case zzhx0 => omega); (case zzhx1 => omega); (case zzhd => ktr_room); (case zzhu => ktr_units)); (try clear zb3); (try clear zb4); (try clear zb5); intro zr zu zi zx zti ztx zh ztk zb1 zb3 zb4 zb5 zF zN; (try dsimp only at zN); (try k_sweep)) | ((with_reducible show wpAny _ _ (call (Value.ref 107) _) _ _ _); k_dflt (refine' next_call ?zzB ?zzF ?zzX ?zzN ?zzT ?zzhk ?zzhl ?zzhi ?zzhn ?zzU ?zzh0 ?zzhx0 ?zzhx1 ?zzhk0 ?zzhd ?zzhu ?_; (case zzB => k_asm); (case zzF => k_asm); (case zzX => k_asm); (case zzN => k_asm); (case zzT => k_asm); (case zzhk => exact rfl); (case zzU => k_updF); (case zzhl => k_asm); (case zzhi => k_asm); (case zzhn => k_asm); (case zzh0 => omega); (case zzhx0 => omega); (case zzhx1 => omega); (case zzhk0 => omega); (case zzhd => ktr_room); (case zzhu => ktr_units)); (try clear zb3); (try clear zb4); (try clear zb5); intro zr zu zi zx zti ztx zh ztk zb1 zb2 zb3 zb4 zb5 zF zN; (try dsimp only at zN); (try k_sweep)) | (k_unfold; (try dsimp only)) | walk1 | dsimp only) | fail "no step")
    rename Fr _ _ _ _ => F9
    rename News _ _ _ _ => N9
    rename IsRange _ _ _ _ _ _ _ _ => hr9
    refine for_range (L := LL) rfl rfl F9 N9 hr9 (by omega) (by omega) (fun _ _ => rfl) fun I hI => ⟨NamesJ st sc fl (LL + 1) (LL + 1 + 1) I os, ?_, ?_, ?_, ?_⟩
    all_goals have hI1 : @LT.lt Nat _ fl I := hI _ (.head _)
    all_goals have y0 : @LT.lt Nat _ st LL := by omega
    all_goals have y3a : @LT.lt Nat _ st fl := by omega
    all_goals have y4a : @LT.lt Nat _ (LL + 1) fl := by omega
    all_goals have y5a : @LT.lt Nat _ (LL + 1 + 1) fl := by omega
    all_goals have y1 : @LT.lt Nat _ st (LL + 1) := Nat.lt_succ_of_lt y0
    all_goals have y2 : @LT.lt Nat _ st (LL + 1 + 1) := Nat.lt_succ_of_lt y1
    all_goals have y3 : @LT.lt Nat _ st I := Nat.lt_trans y3a hI1
    all_goals have y4 : @LT.lt Nat _ (LL + 1) I := Nat.lt_trans y4a hI1
    all_goals have y5 : @LT.lt Nat _ (LL + 1 + 1) I := Nat.lt_trans y5a hI1
    all_goals have y6 : @LT.lt Nat _ (LL + 1) (LL + 1 + 1) := Nat.lt_succ_self _
    · exact ⟨_, _, _, _, 0, of, none, [], rfl, rfl, d1', by assumption, by assumption, by assumption, (fun e he => nomatch he), rfl, (fun p hp => nomatch hp)⟩
    · rintro j m' news' ⟨i', x', ti', tx', c, of', vf, ns', j1, rfl, j2, j3, j4, j5, j6, j7, j8⟩
      refine ⟨fun p hp => (nomatch hp), fun p hp => ?_⟩
      rcases List.mem_cons.mp hp with rfl | hp
      · show @Ne Nat _ _; omega
      rcases List.mem_cons.mp hp with rfl | hp
      · show @Ne Nat _ _; omega
      rcases List.mem_cons.mp hp with rfl | hp
      · show @Ne Nat _ _; omega
      rcases List.mem_cons.mp hp with rfl | hp
      · show @Ne Nat _ _; omega
      · exact (j8 p hp).2.2.2.2
    · rintro j v m₁ news₁ h tk oI hj ⟨tv, rfl⟩ ⟨i', x', ti', tx', c, of', vf, ns', j1, rfl, j2, j3, j4, j5, j6, j7, j8⟩ F1 N1
      rw [m_at1 j1] at F1
      have hns6 : ns'.length ≤ 6 := ns_le (by assumption) (by assumption) hj j7
      have hrl : (refsOf ns').length = ns'.length := by simp [refsOf]
      have hrf : (refsOf ns').length ≤ 6 := by rw [hrl]; exact hns6
      clear j1 F9 N9 hr9 hI d1' hj
      try clear zb1
      try clear zb2
      have J7 := kp j7
      clear j7
      have ht1 : ∀ p ∈ tailOf ns', p.1 ≠ st := fun p hp => (j8 p hp).1
      have ht2 : ∀ p ∈ tailOf ns', p.1 ≠ fl := fun p hp => (j8 p hp).2.1
      have ht3 : ∀ p ∈ tailOf ns', p.1 ≠ LL + 1 := fun p hp => (j8 p hp).2.2.1
      have ht4 : ∀ p ∈ tailOf ns', p.1 ≠ LL + 1 + 1 := fun p hp => (j8 p hp).2.2.2.1
      dsimp only
      repeat' (first | ((fail_if_success (with_reducible show CompSrc ..)); first | ((with_reducible show wpAny _ _ (call (Value.ref 117) _) _ _ _); k_dflt (refine' label_call ?zzB ?zzF ?zzX ?zzN ?zzT ?zzhk ?zzhl ?zzhi ?zzhn ?zzU ?zzh0 ?zzhx0 ?zzhx1 ?zzhd ?zzhu ?_; (case zzB => k_asm); (case zzF => k_asm); (case zzX => k_asm); (case zzN => k_asm); (case zzT => k_asm); (case zzhk => exact rfl); (case zzU => k_updF); (case zzhl => k_asm); (case zzhi => k_asm); (case zzhn => k_asm); (case zzh0 => omega); (case zzhx0 => omega); (case zzhx1 => omega); (case zzhd => ktr_room); (case zzhu => ktr_units)); (try clear zb3); (try clear zb4); (try clear zb5); intro zr zu zi zx zti ztx zh ztk zb1 zb3 zb4 zb5 zF zN; (try dsimp only at zN); (try k_sweep)) | ((with_reducible show wpAny _ _ (call (Value.ref 107) _) _ _ _); k_dflt (refine' next_call ?zzB ?zzF ?zzX ?zzN ?zzT ?zzhk ?zzhl ?zzhi ?zzhn ?zzU ?zzh0 ?zzhx0 ?zzhx1 ?zzhk0 ?zzhd ?zzhu ?_; (case zzB => k_asm); (case zzF => k_asm); (case zzX => k_asm); (case zzN => k_asm); (case zzT => k_asm); (case zzhk => exact rfl); (case zzU => k_updF); (case zzhl => k_asm); (case zzhi => k_asm); (case zzhn => k_asm); (case zzh0 => omega); (case zzhx0 => omega); (case zzhx1 => omega); (case zzhk0 => omega); (case zzhd => ktr_room); (case zzhu => ktr_units)); (try clear zb3); (try clear zb4); (try clear zb5); intro zr zu zi zx zti ztx zh ztk zb1 zb2 zb3 zb4 zb5 zF zN; (try dsimp only at zN); (try k_sweep)) | (k_unfold; (try dsimp only)) | walk1 | dsimp only) | fail "no step")
      refine' compSrc_draws (st := st) (sc := sc) LabsJ ?hh ?F ?N ?U ?hr ?hk0 ?hk1 ?b1 ?b2 ?b3 ?h0 ?step ?fin
      case hh => exact rfl
      case F => k_asm
      case N => k_asm
      case U => k_updF
      case hr => k_asm
      case hk0 => omega
      case hk1 => omega
      case b1 => assumption
      case b2 => assumption
      case b3 => assumption
      case h0 => exact ⟨[], rfl, rfl, fun _ h => nomatch h⟩
      case step =>
        intro g i ys i2 ti2 x2 tx2 hlt hJ a1 a2 a3 v I2 oI2 C oC D m2 h tk E' hP hC hm F' N' o3 ne
        obtain ⟨l, hys, hll, hlb⟩ := hJ
        clear hP hm
        have o3' := o3
        simp only [Off3, and_true] at o3
        have o3s := o3.2.2.2.2.1
        repeat' (first | ((fail_if_success (with_reducible show CompEnd ..)); first | ((with_reducible show wpAny _ _ (call (Value.ref 117) _) _ _ _); k_dflt (refine' label_call ?zzB ?zzF ?zzX ?zzN ?zzT ?zzhk ?zzhl ?zzhi ?zzhn ?zzU ?zzh0 ?zzhx0 ?zzhx1 ?zzhd ?zzhu ?_; (case zzB => k_asm); (case zzF => k_asm); (case zzX => k_asm); (case zzN => k_asm); (case zzT => k_asm); (case zzhk => exact rfl); (case zzU => k_updF); (case zzhl => k_asm); (case zzhi => k_asm); (case zzhn => k_asm); (case zzh0 => omega); (case zzhx0 => omega); (case zzhx1 => omega); (case zzhd => ktr_room); (case zzhu => ktr_units)); (try clear zb3); (try clear zb4); (try clear zb5); intro zr zu zi zx zti ztx zh ztk zb1 zb3 zb4 zb5 zF zN; (try dsimp only at zN); (try k_sweep)) | ((with_reducible show wpAny _ _ (call (Value.ref 107) _) _ _ _); k_dflt (refine' next_call ?zzB ?zzF ?zzX ?zzN ?zzT ?zzhk ?zzhl ?zzhi ?zzhn ?zzU ?zzh0 ?zzhx0 ?zzhx1 ?zzhk0 ?zzhd ?zzhu ?_; (case zzB => k_asm); (case zzF => k_asm); (case zzX => k_asm); (case zzN => k_asm); (case zzT => k_asm); (case zzhk => exact rfl); (case zzU => k_updF); (case zzhl => k_asm); (case zzhi => k_asm); (case zzhn => k_asm); (case zzh0 => omega); (case zzhx0 => omega); (case zzhx1 => omega); (case zzhk0 => omega); (case zzhd => ktr_room); (case zzhu => ktr_units)); (try clear zb3); (try clear zb4); (try clear zb5); intro zr zu zi zx zti ztx zh ztk zb1 zb2 zb3 zb4 zb5 zF zN; (try dsimp only at zN); (try k_sweep)) | (k_unfold; (try dsimp only)) | walk1 | dsimp only) | fail "no step")
        try k_unfold
        rename News _ _ _ _ => N9
        refine CompEnd.intro (by assumption) N9 _ (fun _ hp => hp) o3' trivial ⟨⟨l ++ [(_, _)], by rw [strValues_snoc, hys], by simp [hll], ?_⟩, _, _, _, _, rfl, by assumption, by assumption, by assumption⟩
        intro r hr
        rcases List.mem_append.mp hr with hr | hr
        · exact hlb r hr
        · rw [List.mem_singleton.mp hr]; assumption
      case fin =>
        intro g ys i2 ti2 x2 tx2 hJ a1 a2 a3
        obtain ⟨lb, hys, hll, hlb⟩ := hJ
        have hlb4 : lb.length ≤ 4 := lb_le (by assumption) hll
        clear hll
        try clear zb1
        try clear zb2
        intro D h tk F' N' o1
        have o1' := o1
        simp only [Off1, and_true] at o1
        try dsimp only
        subst hys
        repeat' (first | ((fail_if_success (with_reducible show wpAny _ _ (truthy _) _ _ _)); first | ((with_reducible show wpAny _ _ (call (Value.ref 117) _) _ _ _); k_dflt (refine' label_call ?zzB ?zzF ?zzX ?zzN ?zzT ?zzhk ?zzhl ?zzhi ?zzhn ?zzU ?zzh0 ?zzhx0 ?zzhx1 ?zzhd ?zzhu ?_; (case zzB => k_asm); (case zzF => k_asm); (case zzX => k_asm); (case zzN => k_asm); (case zzT => k_asm); (case zzhk => exact rfl); (case zzU => k_updF); (case zzhl => k_asm); (case zzhi => k_asm); (case zzhn => k_asm); (case zzh0 => omega); (case zzhx0 => omega); (case zzhx1 => omega); (case zzhd => ktr_room); (case zzhu => ktr_units)); (try clear zb3); (try clear zb4); (try clear zb5); intro zr zu zi zx zti ztx zh ztk zb1 zb3 zb4 zb5 zF zN; (try dsimp only at zN); (try k_sweep)) | ((with_reducible show wpAny _ _ (call (Value.ref 107) _) _ _ _); k_dflt (refine' next_call ?zzB ?zzF ?zzX ?zzN ?zzT ?zzhk ?zzhl ?zzhi ?zzhn ?zzU ?zzh0 ?zzhx0 ?zzhx1 ?zzhk0 ?zzhd ?zzhu ?_; (case zzB => k_asm); (case zzF => k_asm); (case zzX => k_asm); (case zzN => k_asm); (case zzT => k_asm); (case zzhk => exact rfl); (case zzU => k_updF); (case zzhl => k_asm); (case zzhi => k_asm); (case zzhn => k_asm); (case zzh0 => omega); (case zzhx0 => omega); (case zzhx1 => omega); (case zzhk0 => omega); (case zzhd => ktr_room); (case zzhu => ktr_units)); (try clear zb3); (try clear zb4); (try clear zb5); intro zr zu zi zx zti ztx zh ztk zb1 zb2 zb3 zb4 zb5 zF zN; (try dsimp only at zN); (try k_sweep)) | (k_unfold; (try dsimp only)) | walk1 | dsimp only) | fail "no step")
        rename News _ _ _ _ => N2
        refine truthR (N2.isList (.tail _ (.tail _ (.head _)))) (by omega) fun kt => ?_
        by_cases hne : ns' = []
        · have hne' : decide (refsOf ns' ≠ []) = false := by subst hne; rfl
          rw [hne']
          repeat' (first | ((fail_if_success (with_reducible show wpAny _ _ (subscriptTail _ (PySem.Expr.Slice ..) _ _) _ _ _)); first | ((with_reducible show wpAny _ _ (call (Value.ref 117) _) _ _ _); k_dflt (refine' label_call ?zzB ?zzF ?zzX ?zzN ?zzT ?zzhk ?zzhl ?zzhi ?zzhn ?zzU ?zzh0 ?zzhx0 ?zzhx1 ?zzhd ?zzhu ?_; (case zzB => k_asm); (case zzF => k_asm); (case zzX => k_asm); (case zzN => k_asm); (case zzT => k_asm); (case zzhk => exact rfl); (case zzU => k_updF); (case zzhl => k_asm); (case zzhi => k_asm); (case zzhn => k_asm); (case zzh0 => omega); (case zzhx0 => omega); (case zzhx1 => omega); (case zzhd => ktr_room); (case zzhu => ktr_units)); (try clear zb3); (try clear zb4); (try clear zb5); intro zr zu zi zx zti ztx zh ztk zb1 zb3 zb4 zb5 zF zN; (try dsimp only at zN); (try k_sweep)) | ((with_reducible show wpAny _ _ (call (Value.ref 107) _) _ _ _); k_dflt (refine' next_call ?zzB ?zzF ?zzX ?zzN ?zzT ?zzhk ?zzhl ?zzhi ?zzhn ?zzU ?zzh0 ?zzhx0 ?zzhx1 ?zzhk0 ?zzhd ?zzhu ?_; (case zzB => k_asm); (case zzF => k_asm); (case zzX => k_asm); (case zzN => k_asm); (case zzT => k_asm); (case zzhk => exact rfl); (case zzU => k_updF); (case zzhl => k_asm); (case zzhi => k_asm); (case zzhn => k_asm); (case zzh0 => omega); (case zzhx0 => omega); (case zzhx1 => omega); (case zzhk0 => omega); (case zzhd => ktr_room); (case zzhu => ktr_units)); (try clear zb3); (try clear zb4); (try clear zb5); intro zr zu zi zx zti ztx zh ztk zb1 zb2 zb3 zb4 zb5 zF zN; (try dsimp only at zN); (try k_sweep)) | (k_unfold; (try dsimp only)) | walk1 | dsimp only) | fail "no step")
          rename Fr _ _ _ _ => F3
          rename News _ _ _ _ => N3
          refine cutR (vs := strValues lb) F3 N3 (N3.isList (.head _)) (by constructor) (by constructor) (kms_to _ 4) (fun D4 h4 F4 N4 l4 => ?_) (by with_unfolding_all rfl) (by intro _; with_unfolding_all rfl) (by simp [strValues]; omega)
          have q1 : @LT.lt Nat _ I D4 := l4 (I, _) (by k_mem)
          have q2 : @LT.lt Nat _ fl D4 := l4 (fl, _) (by k_mem)
          have q3 : @LT.lt Nat _ st D4 := l4 (st, _) (by k_mem)
          have q4 : @LT.lt Nat _ (LL + 1) D4 := l4 (LL + 1, _) (by k_mem)
          have q5 : @LT.lt Nat _ (LL + 1 + 1) D4 := l4 (LL + 1 + 1, _) (by k_mem)
          clear F3 N3
          repeat' (first | ((fail_if_success (with_reducible show wpAny _ _ (call (Value.builtin "list.append") _) _ _ _)); first | ((with_reducible show wpAny _ _ (call (Value.ref 117) _) _ _ _); k_dflt (refine' label_call ?zzB ?zzF ?zzX ?zzN ?zzT ?zzhk ?zzhl ?zzhi ?zzhn ?zzU ?zzh0 ?zzhx0 ?zzhx1 ?zzhd ?zzhu ?_; (case zzB => k_asm); (case zzF => k_asm); (case zzX => k_asm); (case zzN => k_asm); (case zzT => k_asm); (case zzhk => exact rfl); (case zzU => k_updF); (case zzhl => k_asm); (case zzhi => k_asm); (case zzhn => k_asm); (case zzh0 => omega); (case zzhx0 => omega); (case zzhx1 => omega); (case zzhd => ktr_room); (case zzhu => ktr_units)); (try clear zb3); (try clear zb4); (try clear zb5); intro zr zu zi zx zti ztx zh ztk zb1 zb3 zb4 zb5 zF zN; (try dsimp only at zN); (try k_sweep)) | ((with_reducible show wpAny _ _ (call (Value.ref 107) _) _ _ _); k_dflt (refine' next_call ?zzB ?zzF ?zzX ?zzN ?zzT ?zzhk ?zzhl ?zzhi ?zzhn ?zzU ?zzh0 ?zzhx0 ?zzhx1 ?zzhk0 ?zzhd ?zzhu ?_; (case zzB => k_asm); (case zzF => k_asm); (case zzX => k_asm); (case zzN => k_asm); (case zzT => k_asm); (case zzhk => exact rfl); (case zzU => k_updF); (case zzhl => k_asm); (case zzhi => k_asm); (case zzhn => k_asm); (case zzh0 => omega); (case zzhx0 => omega); (case zzhx1 => omega); (case zzhk0 => omega); (case zzhd => ktr_room); (case zzhu => ktr_units)); (try clear zb3); (try clear zb4); (try clear zb5); intro zr zu zi zx zti ztx zh ztk zb1 zb2 zb3 zb4 zb5 zF zN; (try dsimp only at zN); (try k_sweep)) | (k_unfold; (try dsimp only)) | walk1 | dsimp only) | fail "no step")
          rename Fr _ _ _ _ => F3
          rename News _ _ _ _ => N3
          refine appR (vs := refsOf ns') F3 N3 (by k_updF) (by omega) fun h6 F6 N6 => ?_
          try dsimp only at N6
          clear F3 N3
          repeat' (first | ((fail_if_success (with_reducible show Turned ..)); first | ((with_reducible show wpAny _ _ (call (Value.ref 117) _) _ _ _); k_dflt (refine' label_call ?zzB ?zzF ?zzX ?zzN ?zzT ?zzhk ?zzhl ?zzhi ?zzhn ?zzU ?zzh0 ?zzhx0 ?zzhx1 ?zzhd ?zzhu ?_; (case zzB => k_asm); (case zzF => k_asm); (case zzX => k_asm); (case zzN => k_asm); (case zzT => k_asm); (case zzhk => exact rfl); (case zzU => k_updF); (case zzhl => k_asm); (case zzhi => k_asm); (case zzhn => k_asm); (case zzh0 => omega); (case zzhx0 => omega); (case zzhx1 => omega); (case zzhd => ktr_room); (case zzhu => ktr_units)); (try clear zb3); (try clear zb4); (try clear zb5); intro zr zu zi zx zti ztx zh ztk zb1 zb3 zb4 zb5 zF zN; (try dsimp only at zN); (try k_sweep)) | ((with_reducible show wpAny _ _ (call (Value.ref 107) _) _ _ _); k_dflt (refine' next_call ?zzB ?zzF ?zzX ?zzN ?zzT ?zzhk ?zzhl ?zzhi ?zzhn ?zzU ?zzh0 ?zzhx0 ?zzhx1 ?zzhk0 ?zzhd ?zzhu ?_; (case zzB => k_asm); (case zzF => k_asm); (case zzX => k_asm); (case zzN => k_asm); (case zzT => k_asm); (case zzhk => exact rfl); (case zzU => k_updF); (case zzhl => k_asm); (case zzhi => k_asm); (case zzhn => k_asm); (case zzh0 => omega); (case zzhx0 => omega); (case zzhx1 => omega); (case zzhk0 => omega); (case zzhd => ktr_room); (case zzhu => ktr_units)); (try clear zb3); (try clear zb4); (try clear zb5); intro zr zu zi zx zti ztx zh ztk zb1 zb2 zb3 zb4 zb5 zF zN; (try dsimp only at zN); (try k_sweep)) | (k_unfold; (try dsimp only)) | walk1 | dsimp only) | fail "no step")
          rename Fr _ _ _ _ => F9
          rename News _ _ _ _ => N9
          exact names_end (l4 := lb.take 4) F9 N9 rfl (by k_mem) (by k_mem) (by k_mem) (by k_mem) (by k_mem) (by rw [strValues_take]; k_mem) (fun p hp => by (repeat (first | exact hp | refine List.Mem.tail _ ?_))) (by assumption) (by assumption) (by assumption) (by assumption) j6 (by rw [List.length_take]; exact Nat.min_le_left _ _) (fun p hp => hlb p (List.mem_of_mem_take hp)) J7 j8 (by refine ⟨?_, ?_, ?_, ?_, ?_⟩ <;> (show @Ne Nat _ _; omega))
        · have hne' : decide (refsOf ns' ≠ []) = true := by cases ns' with | nil => exact absurd rfl hne | cons => rfl
          rw [hne']
          have hpos : 0 < ns'.length := List.length_pos_iff.mpr hne
          repeat' (first | ((fail_if_success (with_reducible show wpAny _ _ (subscriptTail _ (PySem.Expr.Slice ..) _ _) _ _ _)); (fail_if_success (with_reducible show wpAny _ _ (call (Value.builtin "len") _) _ _ _)); first | ((with_reducible show wpAny _ _ (call (Value.ref 117) _) _ _ _); k_dflt (refine' label_call ?zzB ?zzF ?zzX ?zzN ?zzT ?zzhk ?zzhl ?zzhi ?zzhn ?zzU ?zzh0 ?zzhx0 ?zzhx1 ?zzhd ?zzhu ?_; (case zzB => k_asm); (case zzF => k_asm); (case zzX => k_asm); (case zzN => k_asm); (case zzT => k_asm); (case zzhk => exact rfl); (case zzU => k_updF); (case zzhl => k_asm); (case zzhi => k_asm); (case zzhn => k_asm); (case zzh0 => omega); (case zzhx0 => omega); (case zzhx1 => omega); (case zzhd => ktr_room); (case zzhu => ktr_units)); (try clear zb3); (try clear zb4); (try clear zb5); intro zr zu zi zx zti ztx zh ztk zb1 zb3 zb4 zb5 zF zN; (try dsimp only at zN); (try k_sweep)) | ((with_reducible show wpAny _ _ (call (Value.ref 107) _) _ _ _); k_dflt (refine' next_call ?zzB ?zzF ?zzX ?zzN ?zzT ?zzhk ?zzhl ?zzhi ?zzhn ?zzU ?zzh0 ?zzhx0 ?zzhx1 ?zzhk0 ?zzhd ?zzhu ?_; (case zzB => k_asm); (case zzF => k_asm); (case zzX => k_asm); (case zzN => k_asm); (case zzT => k_asm); (case zzhk => exact rfl); (case zzU => k_updF); (case zzhl => k_asm); (case zzhi => k_asm); (case zzhn => k_asm); (case zzh0 => omega); (case zzhx0 => omega); (case zzhx1 => omega); (case zzhk0 => omega); (case zzhd => ktr_room); (case zzhu => ktr_units)); (try clear zb3); (try clear zb4); (try clear zb5); intro zr zu zi zx zti ztx zh ztk zb1 zb2 zb3 zb4 zb5 zF zN; (try dsimp only at zN); (try k_sweep)) | (k_unfold; (try dsimp only)) | walk1 | dsimp only) | fail "no step")
          rotate_left
          · rename Fr _ _ _ _ => F3
            rename News _ _ _ _ => N3
            refine cutR (vs := strValues lb) F3 N3 (N3.isList (.head _)) (by constructor) (by constructor) (kms_to _ 4) (fun D4 h4 F4 N4 l4 => ?_) (by with_unfolding_all rfl) (by intro _; with_unfolding_all rfl) (by simp [strValues]; omega)
            have q1 : @LT.lt Nat _ I D4 := l4 (I, _) (by k_mem)
            have q2 : @LT.lt Nat _ fl D4 := l4 (fl, _) (by k_mem)
            have q3 : @LT.lt Nat _ st D4 := l4 (st, _) (by k_mem)
            have q4 : @LT.lt Nat _ (LL + 1) D4 := l4 (LL + 1, _) (by k_mem)
            have q5 : @LT.lt Nat _ (LL + 1 + 1) D4 := l4 (LL + 1 + 1, _) (by k_mem)
            clear F3 N3
            repeat' (first | ((fail_if_success (with_reducible show wpAny _ _ (call (Value.builtin "list.append") _) _ _ _)); first | ((with_reducible show wpAny _ _ (call (Value.ref 117) _) _ _ _); k_dflt (refine' label_call ?zzB ?zzF ?zzX ?zzN ?zzT ?zzhk ?zzhl ?zzhi ?zzhn ?zzU ?zzh0 ?zzhx0 ?zzhx1 ?zzhd ?zzhu ?_; (case zzB => k_asm); (case zzF => k_asm); (case zzX => k_asm); (case zzN => k_asm); (case zzT => k_asm); (case zzhk => exact rfl); (case zzU => k_updF); (case zzhl => k_asm); (case zzhi => k_asm); (case zzhn => k_asm); (case zzh0 => omega); (case zzhx0 => omega); (case zzhx1 => omega); (case zzhd => ktr_room); (case zzhu => ktr_units)); (try clear zb3); (try clear zb4); (try clear zb5); intro zr zu zi zx zti ztx zh ztk zb1 zb3 zb4 zb5 zF zN; (try dsimp only at zN); (try k_sweep)) | ((with_reducible show wpAny _ _ (call (Value.ref 107) _) _ _ _); k_dflt (refine' next_call ?zzB ?zzF ?zzX ?zzN ?zzT ?zzhk ?zzhl ?zzhi ?zzhn ?zzU ?zzh0 ?zzhx0 ?zzhx1 ?zzhk0 ?zzhd ?zzhu ?_; (case zzB => k_asm); (case zzF => k_asm); (case zzX => k_asm); (case zzN => k_asm); (case zzT => k_asm); (case zzhk => exact rfl); (case zzU => k_updF); (case zzhl => k_asm); (case zzhi => k_asm); (case zzhn => k_asm); (case zzh0 => omega); (case zzhx0 => omega); (case zzhx1 => omega); (case zzhk0 => omega); (case zzhd => ktr_room); (case zzhu => ktr_units)); (try clear zb3); (try clear zb4); (try clear zb5); intro zr zu zi zx zti ztx zh ztk zb1 zb2 zb3 zb4 zb5 zF zN; (try dsimp only at zN); (try k_sweep)) | (k_unfold; (try dsimp only)) | walk1 | dsimp only) | fail "no step")
            rename Fr _ _ _ _ => F3
            rename News _ _ _ _ => N3
            refine appR (vs := refsOf ns') F3 N3 (by k_updF) (by omega) fun h6 F6 N6 => ?_
            try dsimp only at N6
            clear F3 N3
            repeat' (first | ((fail_if_success (with_reducible show Turned ..)); first | ((with_reducible show wpAny _ _ (call (Value.ref 117) _) _ _ _); k_dflt (refine' label_call ?zzB ?zzF ?zzX ?zzN ?zzT ?zzhk ?zzhl ?zzhi ?zzhn ?zzU ?zzh0 ?zzhx0 ?zzhx1 ?zzhd ?zzhu ?_; (case zzB => k_asm); (case zzF => k_asm); (case zzX => k_asm); (case zzN => k_asm); (case zzT => k_asm); (case zzhk => exact rfl); (case zzU => k_updF); (case zzhl => k_asm); (case zzhi => k_asm); (case zzhn => k_asm); (case zzh0 => omega); (case zzhx0 => omega); (case zzhx1 => omega); (case zzhd => ktr_room); (case zzhu => ktr_units)); (try clear zb3); (try clear zb4); (try clear zb5); intro zr zu zi zx zti ztx zh ztk zb1 zb3 zb4 zb5 zF zN; (try dsimp only at zN); (try k_sweep)) | ((with_reducible show wpAny _ _ (call (Value.ref 107) _) _ _ _); k_dflt (refine' next_call ?zzB ?zzF ?zzX ?zzN ?zzT ?zzhk ?zzhl ?zzhi ?zzhn ?zzU ?zzh0 ?zzhx0 ?zzhx1 ?zzhk0 ?zzhd ?zzhu ?_; (case zzB => k_asm); (case zzF => k_asm); (case zzX => k_asm); (case zzN => k_asm); (case zzT => k_asm); (case zzhk => exact rfl); (case zzU => k_updF); (case zzhl => k_asm); (case zzhi => k_asm); (case zzhn => k_asm); (case zzh0 => omega); (case zzhx0 => omega); (case zzhx1 => omega); (case zzhk0 => omega); (case zzhd => ktr_room); (case zzhu => ktr_units)); (try clear zb3); (try clear zb4); (try clear zb5); intro zr zu zi zx zti ztx zh ztk zb1 zb2 zb3 zb4 zb5 zF zN; (try dsimp only at zN); (try k_sweep)) | (k_unfold; (try dsimp only)) | walk1 | dsimp only) | fail "no step")
            rename Fr _ _ _ _ => F9
            rename News _ _ _ _ => N9
            exact names_end (l4 := lb.take 4) F9 N9 rfl (by k_mem) (by k_mem) (by k_mem) (by k_mem) (by k_mem) (by rw [strValues_take]; k_mem) (fun p hp => by (repeat (first | exact hp | refine List.Mem.tail _ ?_))) (by assumption) (by assumption) (by assumption) (by assumption) j6 (by rw [List.length_take]; exact Nat.min_le_left _ _) (fun p hp => hlb p (List.mem_of_mem_take hp)) J7 j8 (by refine ⟨?_, ?_, ?_, ?_, ?_⟩ <;> (show @Ne Nat _ _; omega))
          rename News _ _ _ _ => N2
          refine lenR (vs := refsOf ns') (N2.isList (.tail _ (.tail _ (.head _)))) (by omega) fun t5 k5 => ?_
          repeat' (first | ((fail_if_success (with_reducible show wpAny _ _ (subscriptTail _ (PySem.Expr.Call ..) _ _) _ _ _)); first | ((with_reducible show wpAny _ _ (call (Value.ref 117) _) _ _ _); k_dflt (refine' label_call ?zzB ?zzF ?zzX ?zzN ?zzT ?zzhk ?zzhl ?zzhi ?zzhn ?zzU ?zzh0 ?zzhx0 ?zzhx1 ?zzhd ?zzhu ?_; (case zzB => k_asm); (case zzF => k_asm); (case zzX => k_asm); (case zzN => k_asm); (case zzT => k_asm); (case zzhk => exact rfl); (case zzU => k_updF); (case zzhl => k_asm); (case zzhi => k_asm); (case zzhn => k_asm); (case zzh0 => omega); (case zzhx0 => omega); (case zzhx1 => omega); (case zzhd => ktr_room); (case zzhu => ktr_units)); (try clear zb3); (try clear zb4); (try clear zb5); intro zr zu zi zx zti ztx zh ztk zb1 zb3 zb4 zb5 zF zN; (try dsimp only at zN); (try k_sweep)) | ((with_reducible show wpAny _ _ (call (Value.ref 107) _) _ _ _); k_dflt (refine' next_call ?zzB ?zzF ?zzX ?zzN ?zzT ?zzhk ?zzhl ?zzhi ?zzhn ?zzU ?zzh0 ?zzhx0 ?zzhx1 ?zzhk0 ?zzhd ?zzhu ?_; (case zzB => k_asm); (case zzF => k_asm); (case zzX => k_asm); (case zzN => k_asm); (case zzT => k_asm); (case zzhk => exact rfl); (case zzU => k_updF); (case zzhl => k_asm); (case zzhi => k_asm); (case zzhn => k_asm); (case zzh0 => omega); (case zzhx0 => omega); (case zzhx1 => omega); (case zzhk0 => omega); (case zzhd => ktr_room); (case zzhu => ktr_units)); (try clear zb3); (try clear zb4); (try clear zb5); intro zr zu zi zx zti ztx zh ztk zb1 zb2 zb3 zb4 zb5 zF zN; (try dsimp only at zN); (try k_sweep)) | (k_unfold; (try dsimp only)) | walk1 | dsimp only) | fail "no step")
          rename News _ _ _ _ => N2
          refine item_refs (N2.isList (.tail _ (.tail _ (.head _)))) (by omega) (by omega) (by omega) fun e he => ?_
          have hmem : (e.1, listOf (strValues e.2.1).toArray e.2.2) ∈ tailOf ns' := List.mem_map.mpr ⟨e, he, rfl⟩
          obtain ⟨he4, hel⟩ := j6 e he
          repeat' (first | ((fail_if_success (with_reducible show wpAny _ _ (call (Value.builtin "len") _) _ _ _)); first | ((with_reducible show wpAny _ _ (call (Value.ref 117) _) _ _ _); k_dflt (refine' label_call ?zzB ?zzF ?zzX ?zzN ?zzT ?zzhk ?zzhl ?zzhi ?zzhn ?zzU ?zzh0 ?zzhx0 ?zzhx1 ?zzhd ?zzhu ?_; (case zzB => k_asm); (case zzF => k_asm); (case zzX => k_asm); (case zzN => k_asm); (case zzT => k_asm); (case zzhk => exact rfl); (case zzU => k_updF); (case zzhl => k_asm); (case zzhi => k_asm); (case zzhn => k_asm); (case zzh0 => omega); (case zzhx0 => omega); (case zzhx1 => omega); (case zzhd => ktr_room); (case zzhu => ktr_units)); (try clear zb3); (try clear zb4); (try clear zb5); intro zr zu zi zx zti ztx zh ztk zb1 zb3 zb4 zb5 zF zN; (try dsimp only at zN); (try k_sweep)) | ((with_reducible show wpAny _ _ (call (Value.ref 107) _) _ _ _); k_dflt (refine' next_call ?zzB ?zzF ?zzX ?zzN ?zzT ?zzhk ?zzhl ?zzhi ?zzhn ?zzU ?zzh0 ?zzhx0 ?zzhx1 ?zzhk0 ?zzhd ?zzhu ?_; (case zzB => k_asm); (case zzF => k_asm); (case zzX => k_asm); (case zzN => k_asm); (case zzT => k_asm); (case zzhk => exact rfl); (case zzU => k_updF); (case zzhl => k_asm); (case zzhi => k_asm); (case zzhn => k_asm); (case zzh0 => omega); (case zzhx0 => omega); (case zzhx1 => omega); (case zzhk0 => omega); (case zzhd => ktr_room); (case zzhu => ktr_units)); (try clear zb3); (try clear zb4); (try clear zb5); intro zr zu zi zx zti ztx zh ztk zb1 zb2 zb3 zb4 zb5 zF zN; (try dsimp only at zN); (try k_sweep)) | (k_unfold; (try dsimp only)) | walk1 | dsimp only) | fail "no step")
          rename News _ _ _ _ => N2
          refine lenR (vs := strValues e.2.1) (N2.isList (n := e.2.2) (by (repeat (first | exact hmem | refine List.Mem.tail _ ?_)))) (by rw [strValues_length]; omega) fun t5 k5 => ?_
          rw [strValues_length]
          repeat' (first | ((fail_if_success (with_reducible show wpAny _ _ (subscriptTail _ (PySem.Expr.Slice ..) _ _) _ _ _)); first | ((with_reducible show wpAny _ _ (call (Value.ref 117) _) _ _ _); k_dflt (refine' label_call ?zzB ?zzF ?zzX ?zzN ?zzT ?zzhk ?zzhl ?zzhi ?zzhn ?zzU ?zzh0 ?zzhx0 ?zzhx1 ?zzhd ?zzhu ?_; (case zzB => k_asm); (case zzF => k_asm); (case zzX => k_asm); (case zzN => k_asm); (case zzT => k_asm); (case zzhk => exact rfl); (case zzU => k_updF); (case zzhl => k_asm); (case zzhi => k_asm); (case zzhn => k_asm); (case zzh0 => omega); (case zzhx0 => omega); (case zzhx1 => omega); (case zzhd => ktr_room); (case zzhu => ktr_units)); (try clear zb3); (try clear zb4); (try clear zb5); intro zr zu zi zx zti ztx zh ztk zb1 zb3 zb4 zb5 zF zN; (try dsimp only at zN); (try k_sweep)) | ((with_reducible show wpAny _ _ (call (Value.ref 107) _) _ _ _); k_dflt (refine' next_call ?zzB ?zzF ?zzX ?zzN ?zzT ?zzhk ?zzhl ?zzhi ?zzhn ?zzU ?zzh0 ?zzhx0 ?zzhx1 ?zzhk0 ?zzhd ?zzhu ?_; (case zzB => k_asm); (case zzF => k_asm); (case zzX => k_asm); (case zzN => k_asm); (case zzT => k_asm); (case zzhk => exact rfl); (case zzU => k_updF); (case zzhl => k_asm); (case zzhi => k_asm); (case zzhn => k_asm); (case zzh0 => omega); (case zzhx0 => omega); (case zzhx1 => omega); (case zzhk0 => omega); (case zzhd => ktr_room); (case zzhu => ktr_units)); (try clear zb3); (try clear zb4); (try clear zb5); intro zr zu zi zx zti ztx zh ztk zb1 zb2 zb3 zb4 zb5 zF zN; (try dsimp only at zN); (try k_sweep)) | (k_unfold; (try dsimp only)) | walk1 | dsimp only) | fail "no step")
          rename Fr _ _ _ _ => F3
          rename News _ _ _ _ => N3
          refine cutR (vs := strValues e.2.1) F3 N3 (N3.isList (n := e.2.2) (by (repeat (first | exact hmem | refine List.Mem.tail _ ?_)))) (by constructor) (by constructor) (kms_fromI _ (by omega)) (fun D5 h5 F5 N5 l5 => ?_) (by with_unfolding_all rfl) (by intro _; with_unfolding_all rfl) (by rw [strValues_length]; omega)
          have p1 : @LT.lt Nat _ I D5 := l5 (I, _) (by k_mem)
          have p2 : @LT.lt Nat _ fl D5 := l5 (fl, _) (by k_mem)
          have p3 : @LT.lt Nat _ st D5 := l5 (st, _) (by k_mem)
          have p4 : @LT.lt Nat _ (LL + 1) D5 := l5 (LL + 1, _) (by k_mem)
          have p5 : @LT.lt Nat _ (LL + 1 + 1) D5 := l5 (LL + 1 + 1, _) (by k_mem)
          have p6 : @LT.lt Nat _ D D5 := l5 (D, _) (by k_mem)
          generalize Int.toNat _ = rr at N5
          clear F3 N3
          repeat' (first | ((fail_if_success (with_reducible show wpAny _ _ (subscriptTail _ (PySem.Expr.Slice ..) _ _) _ _ _)); first | ((with_reducible show wpAny _ _ (call (Value.ref 117) _) _ _ _); k_dflt (refine' label_call ?zzB ?zzF ?zzX ?zzN ?zzT ?zzhk ?zzhl ?zzhi ?zzhn ?zzU ?zzh0 ?zzhx0 ?zzhx1 ?zzhd ?zzhu ?_; (case zzB => k_asm); (case zzF => k_asm); (case zzX => k_asm); (case zzN => k_asm); (case zzT => k_asm); (case zzhk => exact rfl); (case zzU => k_updF); (case zzhl => k_asm); (case zzhi => k_asm); (case zzhn => k_asm); (case zzh0 => omega); (case zzhx0 => omega); (case zzhx1 => omega); (case zzhd => ktr_room); (case zzhu => ktr_units)); (try clear zb3); (try clear zb4); (try clear zb5); intro zr zu zi zx zti ztx zh ztk zb1 zb3 zb4 zb5 zF zN; (try dsimp only at zN); (try k_sweep)) | ((with_reducible show wpAny _ _ (call (Value.ref 107) _) _ _ _); k_dflt (refine' next_call ?zzB ?zzF ?zzX ?zzN ?zzT ?zzhk ?zzhl ?zzhi ?zzhn ?zzU ?zzh0 ?zzhx0 ?zzhx1 ?zzhk0 ?zzhd ?zzhu ?_; (case zzB => k_asm); (case zzF => k_asm); (case zzX => k_asm); (case zzN => k_asm); (case zzT => k_asm); (case zzhk => exact rfl); (case zzU => k_updF); (case zzhl => k_asm); (case zzhi => k_asm); (case zzhn => k_asm); (case zzh0 => omega); (case zzhx0 => omega); (case zzhx1 => omega); (case zzhk0 => omega); (case zzhd => ktr_room); (case zzhu => ktr_units)); (try clear zb3); (try clear zb4); (try clear zb5); intro zr zu zi zx zti ztx zh ztk zb1 zb2 zb3 zb4 zb5 zF zN; (try dsimp only at zN); (try k_sweep)) | (k_unfold; (try dsimp only)) | walk1 | dsimp only) | fail "no step")
          rename Fr _ _ _ _ => F3
          rename News _ _ _ _ => N3
          refine cutR (vs := strValues lb) F3 N3 (N3.isList (.tail _ (.head _))) (by constructor) (by constructor) (kms_to _ 2) (fun D6 h6 F6 N6 l6 => ?_) (by with_unfolding_all rfl) (by intro _; with_unfolding_all rfl) (by rw [strValues_length]; omega)
          have p7 : @LT.lt Nat _ D5 D6 := l6 (D5, _) (by k_mem)
          clear F3 N3
          repeat' (first | ((fail_if_success (with_reducible show wpAny _ _ (eval (PySem.Expr.ListComp ..) _) _ _ _)); first | ((with_reducible show wpAny _ _ (call (Value.ref 117) _) _ _ _); k_dflt (refine' label_call ?zzB ?zzF ?zzX ?zzN ?zzT ?zzhk ?zzhl ?zzhi ?zzhn ?zzU ?zzh0 ?zzhx0 ?zzhx1 ?zzhd ?zzhu ?_; (case zzB => k_asm); (case zzF => k_asm); (case zzX => k_asm); (case zzN => k_asm); (case zzT => k_asm); (case zzhk => exact rfl); (case zzU => k_updF); (case zzhl => k_asm); (case zzhi => k_asm); (case zzhn => k_asm); (case zzh0 => omega); (case zzhx0 => omega); (case zzhx1 => omega); (case zzhd => ktr_room); (case zzhu => ktr_units)); (try clear zb3); (try clear zb4); (try clear zb5); intro zr zu zi zx zti ztx zh ztk zb1 zb3 zb4 zb5 zF zN; (try dsimp only at zN); (try k_sweep)) | ((with_reducible show wpAny _ _ (call (Value.ref 107) _) _ _ _); k_dflt (refine' next_call ?zzB ?zzF ?zzX ?zzN ?zzT ?zzhk ?zzhl ?zzhi ?zzhn ?zzU ?zzh0 ?zzhx0 ?zzhx1 ?zzhk0 ?zzhd ?zzhu ?_; (case zzB => k_asm); (case zzF => k_asm); (case zzX => k_asm); (case zzN => k_asm); (case zzT => k_asm); (case zzhk => exact rfl); (case zzU => k_updF); (case zzhl => k_asm); (case zzhi => k_asm); (case zzhn => k_asm); (case zzh0 => omega); (case zzhx0 => omega); (case zzhx1 => omega); (case zzhk0 => omega); (case zzhd => ktr_room); (case zzhu => ktr_units)); (try clear zb3); (try clear zb4); (try clear zb5); intro zr zu zi zx zti ztx zh ztk zb1 zb2 zb3 zb4 zb5 zF zN; (try dsimp only at zN); (try k_sweep)) | (k_unfold; (try dsimp only)) | walk1 | dsimp only) | fail "no step")
          refine LCg.ListComp_U (F₀ := by k_asm) (by with_unfolding_all rfl) (by decide) (by rfl) (by decide) (by rfl) ?_
          repeat' (first | ((fail_if_success (with_reducible show CompSrc ..)); first | ((with_reducible show wpAny _ _ (call (Value.ref 117) _) _ _ _); k_dflt (refine' label_call ?zzB ?zzF ?zzX ?zzN ?zzT ?zzhk ?zzhl ?zzhi ?zzhn ?zzU ?zzh0 ?zzhx0 ?zzhx1 ?zzhd ?zzhu ?_; (case zzB => k_asm); (case zzF => k_asm); (case zzX => k_asm); (case zzN => k_asm); (case zzT => k_asm); (case zzhk => exact rfl); (case zzU => k_updF); (case zzhl => k_asm); (case zzhi => k_asm); (case zzhn => k_asm); (case zzh0 => omega); (case zzhx0 => omega); (case zzhx1 => omega); (case zzhd => ktr_room); (case zzhu => ktr_units)); (try clear zb3); (try clear zb4); (try clear zb5); intro zr zu zi zx zti ztx zh ztk zb1 zb3 zb4 zb5 zF zN; (try dsimp only at zN); (try k_sweep)) | ((with_reducible show wpAny _ _ (call (Value.ref 107) _) _ _ _); k_dflt (refine' next_call ?zzB ?zzF ?zzX ?zzN ?zzT ?zzhk ?zzhl ?zzhi ?zzhn ?zzU ?zzh0 ?zzhx0 ?zzhx1 ?zzhk0 ?zzhd ?zzhu ?_; (case zzB => k_asm); (case zzF => k_asm); (case zzX => k_asm); (case zzN => k_asm); (case zzT => k_asm); (case zzhk => exact rfl); (case zzU => k_updF); (case zzhl => k_asm); (case zzhi => k_asm); (case zzhn => k_asm); (case zzh0 => omega); (case zzhx0 => omega); (case zzhx1 => omega); (case zzhk0 => omega); (case zzhd => ktr_room); (case zzhu => ktr_units)); (try clear zb3); (try clear zb4); (try clear zb5); intro zr zu zi zx zti ztx zh ztk zb1 zb2 zb3 zb4 zb5 zF zN; (try dsimp only at zN); (try k_sweep)) | (k_unfold; (try dsimp only)) | walk1 | dsimp only) | fail "no step")
          rename Fr _ _ _ _ => F3
          rename News _ _ _ _ => N3
          refine' CompSrc.ledger (its := ((strValues e.2.1).drop rr).toArray) ?hh ?F ?N ?hm ?hsz ?hh2
          case hh => exact rfl
          case F => exact F3
          case N => exact N3
          case hm => exact .tail _ (.head _)
          case hsz => simp [strValues, sizeLine_eq]; omega
          intro g
          refine compRest_inv (n := ((strValues e.2.1).drop rr).toArray.size) (fun i ys news' => (∃ l : List (Str × Tok), ys = strValues l ∧ l.length = i ∧ ∀ p ∈ l, Label p.1) ∧ news' = _) ?_ ?_ _ 0 [] _ rfl ⟨⟨[], rfl, rfl, fun _ h => nomatch h⟩, rfl⟩
          · rintro i ys news' hlt ⟨⟨l, hys, hll, hlb2⟩, rfl⟩ v I2 oI2 C oC D7 m2 h tk E' hP hC hm F' N' o3 ne
            obtain ⟨x, t, rfl, hx⟩ : ∃ x t, v = .str x t ∧ Label x := by
              have hP' : ((strValues e.2.1).drop rr)[i]? = some v := by simpa using hP
              have h2 := List.mem_of_mem_drop (List.mem_of_getElem? hP')
              obtain ⟨p, hp, rfl⟩ := List.mem_map.mp h2
              exact ⟨p.1, p.2, rfl, hel p hp⟩
            have o3' := o3
            simp only [Off3, and_true] at o3
            repeat' (first | ((fail_if_success (with_reducible show CompEnd ..)); first | ((with_reducible show wpAny _ _ (call (Value.ref 117) _) _ _ _); k_dflt (refine' label_call ?zzB ?zzF ?zzX ?zzN ?zzT ?zzhk ?zzhl ?zzhi ?zzhn ?zzU ?zzh0 ?zzhx0 ?zzhx1 ?zzhd ?zzhu ?_; (case zzB => k_asm); (case zzF => k_asm); (case zzX => k_asm); (case zzN => k_asm); (case zzT => k_asm); (case zzhk => exact rfl); (case zzU => k_updF); (case zzhl => k_asm); (case zzhi => k_asm); (case zzhn => k_asm); (case zzh0 => omega); (case zzhx0 => omega); (case zzhx1 => omega); (case zzhd => ktr_room); (case zzhu => ktr_units)); (try clear zb3); (try clear zb4); (try clear zb5); intro zr zu zi zx zti ztx zh ztk zb1 zb3 zb4 zb5 zF zN; (try dsimp only at zN); (try k_sweep)) | ((with_reducible show wpAny _ _ (call (Value.ref 107) _) _ _ _); k_dflt (refine' next_call ?zzB ?zzF ?zzX ?zzN ?zzT ?zzhk ?zzhl ?zzhi ?zzhn ?zzU ?zzh0 ?zzhx0 ?zzhx1 ?zzhk0 ?zzhd ?zzhu ?_; (case zzB => k_asm); (case zzF => k_asm); (case zzX => k_asm); (case zzN => k_asm); (case zzT => k_asm); (case zzhk => exact rfl); (case zzU => k_updF); (case zzhl => k_asm); (case zzhi => k_asm); (case zzhn => k_asm); (case zzh0 => omega); (case zzhx0 => omega); (case zzhx1 => omega); (case zzhk0 => omega); (case zzhd => ktr_room); (case zzhu => ktr_units)); (try clear zb3); (try clear zb4); (try clear zb5); intro zr zu zi zx zti ztx zh ztk zb1 zb2 zb3 zb4 zb5 zF zN; (try dsimp only at zN); (try k_sweep)) | (k_unfold; (try dsimp only)) | walk1 | dsimp only) | fail "no step")
            · try dsimp only
              have hsw := swap_label hx
              refine SCL.swapcase (by have := hx.2.2; show x.cps.size ≤ _; omega) fun _ => ?_
              try k_unfold
              rename News _ _ _ _ => N9
              refine CompEnd.intro (by assumption) N9 _ (fun _ hp => hp) o3' (.inr ⟨_, .tail _ (.head _), rfl, _, rfl⟩) ⟨⟨l ++ [(_, _)], by rw [strValues_snoc, hys], by simp [hll], fun r hr => ?_⟩, rfl⟩
              rcases List.mem_append.mp hr with hr | hr
              · exact hlb2 r hr
              · rw [List.mem_singleton.mp hr]; exact hsw.1
            · try k_unfold
              rename News _ _ _ _ => N9
              refine CompEnd.intro (by assumption) N9 _ (fun _ hp => hp) o3' (.inr ⟨_, .tail _ (.head _), rfl, _, rfl⟩) ⟨⟨l ++ [(_, _)], by rw [strValues_snoc, hys], by simp [hll], fun r hr => ?_⟩, rfl⟩
              rcases List.mem_append.mp hr with hr | hr
              · exact hlb2 r hr
              · rw [List.mem_singleton.mp hr]; exact hx
          · rintro ys news' ⟨⟨l, rfl, hll, hlb2⟩, rfl⟩
            intro D8 h8 tk8 F8 N8 o8
            simp only [Off1, and_true] at o8
            try dsimp only
            repeat' (first | ((fail_if_success (with_reducible show wpAny _ _ (binaryOp .Add _ _) _ _ _)); first | ((with_reducible show wpAny _ _ (call (Value.ref 117) _) _ _ _); k_dflt (refine' label_call ?zzB ?zzF ?zzX ?zzN ?zzT ?zzhk ?zzhl ?zzhi ?zzhn ?zzU ?zzh0 ?zzhx0 ?zzhx1 ?zzhd ?zzhu ?_; (case zzB => k_asm); (case zzF => k_asm); (case zzX => k_asm); (case zzN => k_asm); (case zzT => k_asm); (case zzhk => exact rfl); (case zzU => k_updF); (case zzhl => k_asm); (case zzhi => k_asm); (case zzhn => k_asm); (case zzh0 => omega); (case zzhx0 => omega); (case zzhx1 => omega); (case zzhd => ktr_room); (case zzhu => ktr_units)); (try clear zb3); (try clear zb4); (try clear zb5); intro zr zu zi zx zti ztx zh ztk zb1 zb3 zb4 zb5 zF zN; (try dsimp only at zN); (try k_sweep)) | ((with_reducible show wpAny _ _ (call (Value.ref 107) _) _ _ _); k_dflt (refine' next_call ?zzB ?zzF ?zzX ?zzN ?zzT ?zzhk ?zzhl ?zzhi ?zzhn ?zzU ?zzh0 ?zzhx0 ?zzhx1 ?zzhk0 ?zzhd ?zzhu ?_; (case zzB => k_asm); (case zzF => k_asm); (case zzX => k_asm); (case zzN => k_asm); (case zzT => k_asm); (case zzhk => exact rfl); (case zzU => k_updF); (case zzhl => k_asm); (case zzhi => k_asm); (case zzhn => k_asm); (case zzh0 => omega); (case zzhx0 => omega); (case zzhx1 => omega); (case zzhk0 => omega); (case zzhd => ktr_room); (case zzhu => ktr_units)); (try clear zb3); (try clear zb4); (try clear zb5); intro zr zu zi zx zti ztx zh ztk zb1 zb2 zb3 zb4 zb5 zF zN; (try dsimp only at zN); (try k_sweep)) | (k_unfold; (try dsimp only)) | walk1 | dsimp only) | fail "no step")
            rename Fr _ _ _ _ => F3
            rename News _ _ _ _ => N3
            have hll' : l.length ≤ 4 := by simp [strValues] at hll; rw [hll]; exact Nat.le_trans (Nat.sub_le _ _) he4
            refine kmk_add_lit F3 N3 (its := ((strValues lb).take 2).toArray) (its2 := (strValues l).toArray) (N3.isList (.tail _ (.head _))) (N3.isList (.head _)) (zs := strValues (lb.take 2 ++ l)) (by rw [strValues_append, strValues_take]) (fun D9 h9 F9 N9 l9 => ?_) (by simp [sizeLine_eq, strValues]; exact Nat.le_trans (Nat.add_le_add (Nat.min_le_left _ _) hll') (by decide))
            have p8 : @LT.lt Nat _ fl D9 := l9 (fl, _) (by k_mem)
            clear F3 N3
            have hlab : ∀ p ∈ lb.take 2 ++ l, Label p.1 := fun p hp => (List.mem_append.mp hp).elim (fun hp => hlb p (List.mem_of_mem_take hp)) (hlb2 p)
            have hlen2 : (lb.take 2 ++ l).length ≤ 6 := by rw [List.length_append, List.length_take]; exact Nat.add_le_add (Nat.min_le_left _ _) hll'
            generalize hlb9 : lb.take 2 ++ l = lb9 at N9 hlab hlen2
            repeat' (first | ((fail_if_success (with_reducible show wpAny _ _ (subscriptTail _ (PySem.Expr.Slice ..) _ _) _ _ _)); first | ((with_reducible show wpAny _ _ (call (Value.ref 117) _) _ _ _); k_dflt (refine' label_call ?zzB ?zzF ?zzX ?zzN ?zzT ?zzhk ?zzhl ?zzhi ?zzhn ?zzU ?zzh0 ?zzhx0 ?zzhx1 ?zzhd ?zzhu ?_; (case zzB => k_asm); (case zzF => k_asm); (case zzX => k_asm); (case zzN => k_asm); (case zzT => k_asm); (case zzhk => exact rfl); (case zzU => k_updF); (case zzhl => k_asm); (case zzhi => k_asm); (case zzhn => k_asm); (case zzh0 => omega); (case zzhx0 => omega); (case zzhx1 => omega); (case zzhd => ktr_room); (case zzhu => ktr_units)); (try clear zb3); (try clear zb4); (try clear zb5); intro zr zu zi zx zti ztx zh ztk zb1 zb3 zb4 zb5 zF zN; (try dsimp only at zN); (try k_sweep)) | ((with_reducible show wpAny _ _ (call (Value.ref 107) _) _ _ _); k_dflt (refine' next_call ?zzB ?zzF ?zzX ?zzN ?zzT ?zzhk ?zzhl ?zzhi ?zzhn ?zzU ?zzh0 ?zzhx0 ?zzhx1 ?zzhk0 ?zzhd ?zzhu ?_; (case zzB => k_asm); (case zzF => k_asm); (case zzX => k_asm); (case zzN => k_asm); (case zzT => k_asm); (case zzhk => exact rfl); (case zzU => k_updF); (case zzhl => k_asm); (case zzhi => k_asm); (case zzhn => k_asm); (case zzh0 => omega); (case zzhx0 => omega); (case zzhx1 => omega); (case zzhk0 => omega); (case zzhd => ktr_room); (case zzhu => ktr_units)); (try clear zb3); (try clear zb4); (try clear zb5); intro zr zu zi zx zti ztx zh ztk zb1 zb2 zb3 zb4 zb5 zF zN; (try dsimp only at zN); (try k_sweep)) | (k_unfold; (try dsimp only)) | walk1 | dsimp only) | fail "no step")
            rename Fr _ _ _ _ => F3
            rename News _ _ _ _ => N3
            refine cutR (vs := strValues lb9) F3 N3 (N3.isList (.head _)) (by constructor) (by constructor) (kms_to _ 4) (fun D4 h4 F4 N4 l4 => ?_) (by with_unfolding_all rfl) (by intro _; with_unfolding_all rfl) (by simp [strValues]; omega)
            have q1 : @LT.lt Nat _ I D4 := l4 (I, _) (by k_mem)
            have q2 : @LT.lt Nat _ fl D4 := l4 (fl, _) (by k_mem)
            have q3 : @LT.lt Nat _ st D4 := l4 (st, _) (by k_mem)
            have q4 : @LT.lt Nat _ (LL + 1) D4 := l4 (LL + 1, _) (by k_mem)
            have q5 : @LT.lt Nat _ (LL + 1 + 1) D4 := l4 (LL + 1 + 1, _) (by k_mem)
            clear F3 N3
            repeat' (first | ((fail_if_success (with_reducible show wpAny _ _ (call (Value.builtin "list.append") _) _ _ _)); first | ((with_reducible show wpAny _ _ (call (Value.ref 117) _) _ _ _); k_dflt (refine' label_call ?zzB ?zzF ?zzX ?zzN ?zzT ?zzhk ?zzhl ?zzhi ?zzhn ?zzU ?zzh0 ?zzhx0 ?zzhx1 ?zzhd ?zzhu ?_; (case zzB => k_asm); (case zzF => k_asm); (case zzX => k_asm); (case zzN => k_asm); (case zzT => k_asm); (case zzhk => exact rfl); (case zzU => k_updF); (case zzhl => k_asm); (case zzhi => k_asm); (case zzhn => k_asm); (case zzh0 => omega); (case zzhx0 => omega); (case zzhx1 => omega); (case zzhd => ktr_room); (case zzhu => ktr_units)); (try clear zb3); (try clear zb4); (try clear zb5); intro zr zu zi zx zti ztx zh ztk zb1 zb3 zb4 zb5 zF zN; (try dsimp only at zN); (try k_sweep)) | ((with_reducible show wpAny _ _ (call (Value.ref 107) _) _ _ _); k_dflt (refine' next_call ?zzB ?zzF ?zzX ?zzN ?zzT ?zzhk ?zzhl ?zzhi ?zzhn ?zzU ?zzh0 ?zzhx0 ?zzhx1 ?zzhk0 ?zzhd ?zzhu ?_; (case zzB => k_asm); (case zzF => k_asm); (case zzX => k_asm); (case zzN => k_asm); (case zzT => k_asm); (case zzhk => exact rfl); (case zzU => k_updF); (case zzhl => k_asm); (case zzhi => k_asm); (case zzhn => k_asm); (case zzh0 => omega); (case zzhx0 => omega); (case zzhx1 => omega); (case zzhk0 => omega); (case zzhd => ktr_room); (case zzhu => ktr_units)); (try clear zb3); (try clear zb4); (try clear zb5); intro zr zu zi zx zti ztx zh ztk zb1 zb2 zb3 zb4 zb5 zF zN; (try dsimp only at zN); (try k_sweep)) | (k_unfold; (try dsimp only)) | walk1 | dsimp only) | fail "no step")
            rename Fr _ _ _ _ => F3
            rename News _ _ _ _ => N3
            refine appR (vs := refsOf ns') F3 N3 (by k_updF) (by omega) fun h6 F6 N6 => ?_
            try dsimp only at N6
            clear F3 N3
            repeat' (first | ((fail_if_success (with_reducible show Turned ..)); first | ((with_reducible show wpAny _ _ (call (Value.ref 117) _) _ _ _); k_dflt (refine' label_call ?zzB ?zzF ?zzX ?zzN ?zzT ?zzhk ?zzhl ?zzhi ?zzhn ?zzU ?zzh0 ?zzhx0 ?zzhx1 ?zzhd ?zzhu ?_; (case zzB => k_asm); (case zzF => k_asm); (case zzX => k_asm); (case zzN => k_asm); (case zzT => k_asm); (case zzhk => exact rfl); (case zzU => k_updF); (case zzhl => k_asm); (case zzhi => k_asm); (case zzhn => k_asm); (case zzh0 => omega); (case zzhx0 => omega); (case zzhx1 => omega); (case zzhd => ktr_room); (case zzhu => ktr_units)); (try clear zb3); (try clear zb4); (try clear zb5); intro zr zu zi zx zti ztx zh ztk zb1 zb3 zb4 zb5 zF zN; (try dsimp only at zN); (try k_sweep)) | ((with_reducible show wpAny _ _ (call (Value.ref 107) _) _ _ _); k_dflt (refine' next_call ?zzB ?zzF ?zzX ?zzN ?zzT ?zzhk ?zzhl ?zzhi ?zzhn ?zzU ?zzh0 ?zzhx0 ?zzhx1 ?zzhk0 ?zzhd ?zzhu ?_; (case zzB => k_asm); (case zzF => k_asm); (case zzX => k_asm); (case zzN => k_asm); (case zzT => k_asm); (case zzhk => exact rfl); (case zzU => k_updF); (case zzhl => k_asm); (case zzhi => k_asm); (case zzhn => k_asm); (case zzh0 => omega); (case zzhx0 => omega); (case zzhx1 => omega); (case zzhk0 => omega); (case zzhd => ktr_room); (case zzhu => ktr_units)); (try clear zb3); (try clear zb4); (try clear zb5); intro zr zu zi zx zti ztx zh ztk zb1 zb2 zb3 zb4 zb5 zF zN; (try dsimp only at zN); (try k_sweep)) | (k_unfold; (try dsimp only)) | walk1 | dsimp only) | fail "no step")
            rename Fr _ _ _ _ => F9
            rename News _ _ _ _ => N9
            exact names_end (l4 := lb9.take 4) F9 N9 rfl (by k_mem) (by k_mem) (by k_mem) (by k_mem) (by k_mem) (by rw [strValues_take]; k_mem) (fun p hp => by (repeat (first | exact hp | refine List.Mem.tail _ ?_))) (by assumption) (by assumption) (by assumption) (by assumption) j6 (by rw [List.length_take]; exact Nat.min_le_left _ _) (fun p hp => hlab p (List.mem_of_mem_take hp)) J7 j8 (by refine ⟨?_, ?_, ?_, ?_, ?_⟩ <;> (show @Ne Nat _ _; omega))
    · rintro m₁ news₁ h tk ⟨i', x', ti', tx', c, of', vf, ns', j1, rfl, j2, j3, j4, j5, j6, j7, j8⟩ F1 N1
      refine wpAny_execs_nil ⟨rfl, h, tk, m₁, i', x', ti', tx', c, fl, ns', rfl, F1, News.sub N1 (fun p hp => ?_), j1, j3, j4, j5, j6, (ns_end (by assumption) (by assumption) j7).1, (ns_end (by assumption) (by assumption) j7).2, by show @Ne Nat _ _; omega, fun p hp => ⟨(j8 p hp).1, (j8 p hp).2.1⟩⟩
      rcases List.mem_cons.mp hp with hp | hp
      · rw [hp]; exact .head _
      · rcases List.mem_cons.mp hp with hp | hp
        · rw [hp]; exact .tail _ (.tail _ (.tail _ (.head _)))
        · exact .tail _ (.tail _ (.tail _ (.tail _ hp)))
  · rintro f s' ⟨rfl, h, tk, m', i', x', ti', tx', c, fl', nl, rfl, F7, N7, hm7, b1, b2, b3, b4, b5, b6, b7, b8⟩
    dsimp only
    rw [m_at1 hm7] at F7
    clear F9 N9
    k_steps
    rename Fr _ _ _ _ => F9
    rename News _ _ _ _ => N9
    rename GSub _ _ _ => G9
    exact hret' _ _ _ _ _ _ _ _ _ _ _ _ G9 F9 N9 b1 b2 b3 b4 b5 b6 b7 b8
end Mine
end
section
open PySem PySem.W PyProof.Rows PySem.Calls
set_option maxRecDepth 100000
namespace Mine
set_option linter.unusedVariables false
theorem fz_no_bytes : typeLookup (.type "int") "__bytes__" = pure none := by rw [typeLookup_type, builtinLookup_eq_fast]; kernel_rfl
section
variable {prog : Program} {w : World} {A : Around} {E : Value → Shared → Prop} {s : Shared} {n : Int} {t : Tok}
theorem fz_new {Q : Value → Shared → Prop} (h0 : 0 ≤ n) (h1 : n ≤ 16777216) (hQ : ∀ t k, Q (.bytes (List.replicate n.toNat 0).toArray t) { s with toks := k }) :
    codeAny (model prog w) A (.call (.builtin "bytes.__new__") ⟨[.type "bytes", .int n t], []⟩) (wants Q E) s := by
  refine codeAny_of_tree ?_
  show wpAny _ A.in1 (do checkBuiltinCall "bytes.__new__" ⟨[.type "bytes", .int n t], []⟩; again (.builtin "bytes.__new__" ⟨[.type "bytes", .int n t], []⟩)) _ _ s
  refine wpAny_bind (wpAny_of_eq (F.bm_newCall _) (wpAny_pure ⟨plainId_quiet F.bm_plain _, codeAny_builtin F.bm_entry ?_⟩))
  rw [Around.under_plainId F.bm_plain _]
  unfold Builtin.«bytes.__new__»
  refine wpAny_bind (wpAny_of_eq (a := true) rfl ?_)
  refine bm_if_false rfl ?_
  refine wpAny_bind (wpAny_of_eq F.bm_sub ?_)
  refine bm_if_false rfl ?_
  refine wpAny_bind (wpAny_of_eq (F.bm_bind _) ?_)
  refine wpAny_bind (wpAny_of_eq (a := ()) rfl ?_)
  refine wpAny_bind (wpAny_of_eq (a := ()) rfl ?_)
  refine bm_if_false rfl ?_
  refine wpAny_bind (wpAny_specialOf (typeIs_int s n t) fz_no_bytes ?_)
  refine wpAny_bind (wpAny_of_eq (a := false) rfl ?_)
  refine bm_if_false rfl ?_
  refine wpAny_bind (wpAny_specialOf (typeIs_int s n t) F.slot_int_index.lookup ?_)
  refine bm_if_false rfl ?_
  refine wpAny_bind (wpAny_of_eq (a := Except.ok n) rfl ?_)
  dsimp only
  refine bm_if_false (by simp [Builtin.Bytes.fitsIndex]; omega) ?_
  refine wpAny_ite (KBy.ite_no (by omega) ?_)
  refine wpAny_ite (KBy.ite_no (by omega) ?_)
  refine bm_if_false (by unfold Builtin.Bytes.tooLong; rw [sizeLine_eq]; simp; omega) ?_
  refine wpAny_bind (wpAny_rule ?_)
  refine wpAny_bind (wpAny_mkBytes (b := Array.replicate n.toNat 0) ?_ (by simp [sizeLine_eq]; omega))
  show wpAny _ _ (if (Value.type "bytes" == Value.type "bytes") = true then _ else _) _ _ _
  refine bm_if_true (by decide) ?_
  have e : Array.replicate n.toNat (0 : UInt8) = (List.replicate n.toNat 0).toArray := by simp
  rw [e]
  first
    | exact wpAny_pure (hQ _ _)
    | exact wpAny_bind (wpAny_pure (wpAny_pure (hQ _ _)))
theorem bytes_zero {Q : Value → Shared → Prop} (h0 : 0 ≤ n) (h1 : n ≤ 16777216) (hQ : ∀ t k, Q (.bytes (List.replicate n.toNat 0).toArray t) { s with toks := k }) : wpAny (model prog w) A (call (.type "bytes") [.int n t]) Q E s := by
  refine callType_codes (Q₁ := fun obj s₁ => s₁.TypeIs obj "bytes" ∧ Q obj s₁) F.bm_called (F.bm_typeCall _) F.entry_object_init
    (fz_new h0 h1 fun t k => ⟨PySem.W.typeIs_bytes _ _ _, hQ t k⟩) fun obj s₁ h₁ => ?_
  exact ⟨h₁.1, F.args_object_init_2 obj _, object_init_meets F.bm_called.init.lookup F.bm_called.made (by decide) prog w A.in1 _ s₁ ⟨h₁.1, rfl, h₁.2⟩⟩
end
end Mine
end
section
open PySem PySem.W PyProof.Rows
set_option maxRecDepth 100000
namespace Mine
set_option linter.unusedVariables false
abbrev Lab := List Nat
abbrev EB := List (List Nat × Nat × List Lab)
def LabOk (l : Lab) : Prop := okL l = true ∧ 1 ≤ l.length ∧ l.length ≤ 54
def keyS (r : List Lab) : List Nat := (joinL [46] r).map up1
def encL (l : Lab) : List UInt8 := l.length.toUInt8 :: bOf l
/-- what the law lays for a name: octets, labels to be read, whether it is whole, new ends -/
def walkName (off : Nat) (eb : EB) : List Lab → List UInt8 → List Lab → List UInt8 × List Lab × Bool × List (List Nat × Nat)
  | [], due, read => (due ++ [0], read, true, [])
  | l :: r, due, read => match look eb (keyS (l :: r)) with
    | some (p, rest) => (due ++ [(192 + p / 256).toUInt8, (p % 256).toUInt8], read ++ rest, false, [])
    | none => let x := walkName off eb r (due ++ encL l) (read ++ [l]); (x.1, x.2.1, x.2.2.1, (keyS (l :: r), off + due.length) :: x.2.2.2)
def tbOf (eb : List (List Nat × Nat)) : List (List UInt8 × Nat) := eb.map fun e => (bOf e.1 ++ [46], e.2)
def ksOf (eb : EB) : List (List Nat × Nat) := eb.map fun e => (e.1, e.2.1)
theorem up_at : ∀ c : Nat, c < 128 → Builtin.Bytes.toUpper c.toUInt8 = (up1 c).toUInt8 := by decide +kernel
theorem up1_lt {c : Nat} (h : c < 128) : up1 c < 128 := by unfold up1; split <;> omega
theorem okCp_lt {c : Nat} (h : okCp c = true) : c < 128 := by
  simp only [okCp, Bool.or_eq_true, beq_iff_eq] at h; omega
theorem okCp_dot {c : Nat} (h : okCp c = true) : c ≠ 46 := by
  simp only [okCp, Bool.or_eq_true, beq_iff_eq] at h; omega
theorem okCp_up {c : Nat} (h : okCp c = true) : up1 c ≠ 46 := by
  simp only [okCp, Bool.or_eq_true, beq_iff_eq] at h; unfold up1; split <;> omega
theorem joinL_mem {α : Type} {sep : List α} {c : α} : ∀ {ls : List (List α)}, c ∈ joinL sep ls → c ∈ sep ∨ ∃ l ∈ ls, c ∈ l
  | [], h => nomatch h
  | [x], h => .inr ⟨x, .head _, h⟩
  | x :: y :: r, h => by
    rw [joinL] at h
    rcases List.mem_append.mp h with h | h
    · rcases List.mem_append.mp h with h | h
      · exact .inr ⟨x, .head _, h⟩
      · exact .inl h
    · rcases joinL_mem h with h | ⟨l, hl, hc⟩
      · exact .inl h
      · exact .inr ⟨l, .tail _ hl, hc⟩
theorem join_lt {r : List Lab} (h : ∀ l ∈ r, LabOk l) : ∀ c ∈ joinL [46] r, c < 128 := by
  intro c hc
  rcases joinL_mem hc with hc | ⟨l, hl, hc⟩
  · rw [List.mem_singleton.mp hc]; decide
  · exact okCp_lt (List.all_eq_true.mp (h l hl).1 c hc)
theorem keyS_lt {r : List Lab} (h : ∀ l ∈ r, LabOk l) : ∀ c ∈ keyS r, c < 128 := by
  intro c hc
  obtain ⟨d, hd, rfl⟩ := List.mem_map.mp hc
  exact up1_lt (join_lt h d hd)
theorem joinL_snoc {α : Type} (sep : List α) : ∀ (r : List (List α)), r ≠ [] → joinL sep (r ++ [[]]) = joinL sep r ++ sep
  | [], h => absurd rfl h
  | [x], _ => by simp [joinL]
  | x :: y :: r, _ => by
    have := joinL_snoc sep (y :: r) (by simp)
    simp only [List.cons_append, joinL] at this ⊢
    rw [this]; simp
theorem joinL_bOf : ∀ r : List Lab, joinL [46] (r.map bOf) = bOf (joinL [46] r)
  | [] => rfl
  | [x] => rfl
  | x :: y :: r => by
    have := joinL_bOf (y :: r)
    simp only [List.map_cons, joinL] at this ⊢
    rw [this]
    simp [bOf]
theorem keyB_eq {r : List Lab} (h : ∀ l ∈ r, LabOk l) (hr : r ≠ []) : keyB (r.map bOf ++ [[]]) = bOf (keyS r) ++ [46] := by
  unfold keyB keyS
  rw [joinL_snoc _ _ (by simpa using hr), joinL_bOf, List.map_append]
  congr 1
  unfold bOf
  rw [List.map_map, List.map_map]
  exact List.map_congr_left fun c hc => up_at c (join_lt h c hc)
theorem keyB_nil : keyB (([] : List Lab).map bOf ++ [[]]) = [] := rfl
theorem bOf_inj {a b : List Nat} (ha : ∀ c ∈ a, c < 128) (hb : ∀ c ∈ b, c < 128) (h : bOf a = bOf b) : a = b := by
  have key : ∀ x : List Nat, (∀ c ∈ x, c < 128) → (bOf x).map UInt8.toNat = x := by
    intro x hx
    unfold bOf
    rw [List.map_map]
    conv => rhs; rw [← List.map_id x]
    refine List.map_congr_left fun c hc => ?_
    have := hx c hc
    show (Nat.toUInt8 c).toNat = c
    simp [Nat.toUInt8, UInt8.toNat_ofNat]; omega
  rw [← key a ha, ← key b hb, h]
theorem keyS_len (l : Lab) (r : List Lab) (h : 1 ≤ l.length) : (keyS r).length < (keyS (l :: r)).length := by
  unfold keyS
  rw [List.length_map, List.length_map]
  cases r with
  | nil => simp [joinL]; omega
  | cons x r => simp [joinL]; omega
theorem look_tb {eb : List (List Nat × Nat)} {k : List Nat} (hk : ∀ c ∈ k, c < 128) (h : ∀ e ∈ eb, ∀ c ∈ e.1, c < 128) : look (tbOf eb) (bOf k ++ [46]) = look eb k := by
  unfold tbOf
  induction eb with
  | nil => rfl
  | cons e r ih =>
    have ih' := ih fun x hx => h x (.tail _ hx)
    unfold look at ih' ⊢
    rw [List.map_cons, List.find?_cons, List.find?_cons]
    by_cases he : e.1 = k
    · simp [he]
    · have he2 : ¬ (bOf e.1 ++ [46] = bOf k ++ [46]) := fun q => he (bOf_inj (h e (.head _)) hk (List.append_cancel_right q))
      simp only [he, he2, decide_false]
      exact ih'
theorem look_ks {eb : EB} {k : List Nat} : look (ksOf eb) k = (look eb k).map (·.1) := by
  unfold ksOf look
  induction eb with
  | nil => rfl
  | cons e r ih =>
    rw [List.map_cons, List.find?_cons, List.find?_cons]
    by_cases he : e.1 = k
    · simp [he]
    · simp only [he, decide_false]; exact ih
theorem look_app {α β : Type} [DecidableEq α] {a b : List (α × β)} {k : α} (h : ∀ e ∈ b, e.1 ≠ k) : look (a ++ b) k = look a k := by
  unfold look
  rw [List.find?_append]
  have : b.find? (fun e => e.1 = k) = none := by rw [List.find?_eq_none]; intro x hx; simpa using h x hx
  rw [this]; simp
/-- pack_name lays what the law expects -/
theorem pack_sim (off : Nat) (eb : EB) (he : ∀ e ∈ ksOf eb, ∀ c ∈ e.1, c < 128) : ∀ (ls : List Lab) (due : List UInt8) (read : List Lab) (nb : List (List Nat × Nat)), (∀ l ∈ ls, LabOk l) → (∀ e ∈ nb, ∀ c ∈ e.1, c < 128) → (∀ e ∈ nb, (keyS ls).length < e.1.length) → (∀ e ∈ eb, e.2.1 < 16384) →
    packL off (ls.map bOf ++ [[]]) (tbOf (ksOf eb ++ nb)) due = ((walkName off eb ls due read).1, tbOf (ksOf eb ++ nb ++ (walkName off eb ls due read).2.2.2)) := by
  intro ls
  induction ls with
  | nil =>
    intro due read nb _ h2 h3 _
    have hl : look (tbOf (ksOf eb ++ nb)) [] = none := by
      unfold look tbOf
      have : ((ksOf eb ++ nb).map fun e => (bOf e.1 ++ [46], e.2)).find? (fun e => e.1 = []) = none := by
        rw [List.find?_eq_none]; intro x hx
        obtain ⟨e, _, rfl⟩ := List.mem_map.mp hx
        simp
      rw [this]; rfl
    show packL off [[]] _ _ = _
    rw [packL]
    have hkb : keyB [[]] = [] := rfl
    rw [hkb, hl]
    simp [packL, walkName]
  | cons l r ih =>
    intro due read nb h1 h2 h3 h4
    have hks := keyS_lt h1
    have hall : ∀ e ∈ ksOf eb ++ nb, ∀ c ∈ e.1, c < 128 := fun e hx => (List.mem_append.mp hx).elim (he e) (h2 e)
    have hlk : look (tbOf (ksOf eb ++ nb)) (keyB ((l :: r).map bOf ++ [[]])) = (look eb (keyS (l :: r))).map (·.1) := by
      rw [keyB_eq h1 (by simp), look_tb hks hall, look_app (fun e hx => ?_), look_ks]
      intro q
      have := h3 e hx
      rw [q] at this; omega
    have e1 : (l :: r).map bOf ++ [[]] = bOf l :: (r.map bOf ++ [[]]) := rfl
    rw [e1, packL, ← e1, hlk, walkName]
    cases hq : look eb (keyS (l :: r)) with
    | some x =>
      obtain ⟨p, rest⟩ := x
      have hp : p < 16384 := by
        unfold look at hq
        obtain ⟨y, hy, e2⟩ := Option.map_eq_some_iff.mp hq
        have := h4 y (List.mem_of_find?_eq_some hy)
        rw [e2] at this; exact this
      dsimp only [Option.map]
      rw [show (49152 + p) / 256 = 192 + p / 256 from by omega, show (49152 + p) % 256 = p % 256 from by omega]
      simp
    | none =>
      dsimp only [Option.map]
      have hkb := keyB_eq h1 (by simp)
      have hlen : 1 < (keyB ((l :: r).map bOf ++ [[]])).length := by
        rw [hkb]
        have := keyS_len l r (h1 l (.head _)).2.1
        simp [bOf]; omega
      rw [if_pos hlen, hkb]
      have e2 : tbOf (ksOf eb ++ nb) ++ [(bOf (keyS (l :: r)) ++ [46], off + due.length)] = tbOf (ksOf eb ++ (nb ++ [(keyS (l :: r), off + due.length)])) := by simp [tbOf]
      have e3 : due ++ (bOf l).length.toUInt8 :: bOf l = due ++ encL l := by simp [encL, bOf]
      rw [e2, e3, ih (due ++ encL l) (read ++ [l]) (nb ++ [(keyS (l :: r), off + due.length)]) (fun x hx => h1 x (.tail _ hx)) ?_ ?_ h4]
      · simp
      · intro e hx
        rcases List.mem_append.mp hx with hx | hx
        · exact h2 e hx
        · rw [List.mem_singleton.mp hx]; exact hks
      · intro e hx
        have hkl := keyS_len l r (h1 l (.head _)).2.1
        rcases List.mem_append.mp hx with hx | hx
        · have := h3 e hx; omega
        · rw [List.mem_singleton.mp hx]; exact hkl
end Mine
end
section
open PySem PySem.W PyProof.Rows
set_option maxRecDepth 100000
namespace Mine
set_option linter.unusedVariables false
def sumL (ls : List Lab) : Nat := (ls.map fun l => l.length + 1).sum
theorem sumL_cons (l : Lab) (r : List Lab) : sumL (l :: r) = l.length + 1 + sumL r := by simp [sumL]
theorem sumL_nil : sumL [] = 0 := rfl
/-- a name can be read: octets, bound of its first pointer, place, labels, place behind -/
inductive Rd (buf : List UInt8) : Nat → Nat → List Lab → Nat → Prop
  | zero {b p : Nat} : p < buf.length → buf.getD p 0 = 0 → Rd buf b p [] (p + 1)
  | ptr {b p q e : Nat} {rest : List Lab} : p + 1 < buf.length → buf.getD p 0 = (192 + q / 256).toUInt8 → buf.getD (p + 1) 0 = (q % 256).toUInt8 → q < 16384 → q < b → Rd buf q q rest e → Rd buf b p rest (p + 2)
  | lab {b p e : Nat} {l : Lab} {r : List Lab} : p + 1 + l.length ≤ buf.length → buf.getD p 0 = l.length.toUInt8 → LabOk l → (buf.drop (p + 1)).take l.length = bOf l → Rd buf b (p + 1 + l.length) r e → Rd buf b p (l :: r) e
theorem Rd.mono {buf : List UInt8} {b b' p e : Nat} {ls : List Lab} (h : Rd buf b p ls e) (hb : b ≤ b') : Rd buf b' p ls e := by
  induction h with
  | zero h1 h2 => exact .zero h1 h2
  | ptr h1 h2 h3 h4 h5 h6 _ => exact .ptr h1 h2 h3 h4 (by omega) h6
  | lab h1 h2 h3 h4 h5 ih => exact .lab h1 h2 h3 h4 (ih hb)
theorem getD_app {a b : List UInt8} {i : Nat} (h : i < a.length) : (a ++ b).getD i 0 = a.getD i 0 := by
  simp [List.getD_eq_getElem?_getD, List.getElem?_append_left h]
theorem cut_app {a b : List UInt8} {i n : Nat} (h : i + n ≤ a.length) : ((a ++ b).drop i).take n = (a.drop i).take n := by
  rw [List.drop_append_of_le_length (by omega), List.take_append_of_le_length (by rw [List.length_drop]; omega)]
theorem Rd.app {buf x : List UInt8} {b p e : Nat} {ls : List Lab} (h : Rd buf b p ls e) : Rd (buf ++ x) b p ls e := by
  induction h with
  | zero h1 h2 => exact .zero (by simp; omega) (by rw [getD_app h1]; exact h2)
  | ptr h1 h2 h3 h4 h5 h6 ih => exact .ptr (by simp; omega) (by rw [getD_app (by omega)]; exact h2) (by rw [getD_app h1]; exact h3) h4 h5 ih
  | lab h1 h2 h3 h4 h5 ih => exact .lab (by simp; omega) (by rw [getD_app (by omega)]; exact h2) h3 (by rw [cut_app h1]; exact h4) ih
theorem u8 {n : Nat} (h : n < 256) : (n.toUInt8).toNat = n := by
  simp [Nat.toUInt8]; omega
theorem Rd.unp {buf : List UInt8} {start off e : Nat} {ls : List Lab} (h : Rd buf start off ls e) : ∀ (saved nl : Nat) (name : List (List UInt8)), nl + sumL ls ≤ 255 →
    ∃ n, Unp buf n off start saved nl name (.done (name ++ ls.map bOf) (if saved = 0 then e else saved)) := by
  induction h with
  | @zero b p h1 h2 => exact fun saved nl name _ => ⟨0, by simpa using Unp.zero h1 h2⟩
  | @ptr b p q e rest h1 h2 h3 h4 h5 h6 ih =>
    intro saved nl name hs
    obtain ⟨n, hn⟩ := ih (if saved = 0 then p + 2 else saved) nl name hs
    refine ⟨n + 1, .ptr q h1 rfl rfl ?_ ?_ h5 ?_⟩
    · rw [h2, u8 (by omega)]; omega
    · rw [h2, h3, u8 (by omega), u8 (by omega)]; omega
    · by_cases hs0 : saved = 0
      · simp only [hs0, if_true] at hn ⊢
        rw [if_neg (by omega)] at hn
        exact hn
      · simp only [hs0, if_false] at hn ⊢
        exact hn
  | @lab b p e l r h1 h2 h3 h4 h5 ih =>
    intro saved nl name hs
    rw [sumL_cons] at hs
    obtain ⟨n, hn⟩ := ih saved (nl + (l.length + 1)) (name ++ [bOf l]) (by omega)
    refine ⟨n + 1, .lab l.length (by omega) ?_ h3.2.1 (by have := h3.2.2; omega) (by omega) ?_⟩
    · rw [h2, u8 (by have := h3.2.2; omega)]
    · rw [h4]
      simpa using hn
/-- labels that stand one behind another -/
inductive Inl (buf : List UInt8) : Nat → List Lab → Prop
  | nil {p : Nat} : Inl buf p []
  | cons {p : Nat} {l : Lab} {r : List Lab} : p + 1 + l.length ≤ buf.length → buf.getD p 0 = l.length.toUInt8 → LabOk l → Inl buf (p + 1 + l.length) r → Inl buf p (l :: r)
theorem Inl.app {buf x : List UInt8} {p : Nat} {ls : List Lab} (h : Inl buf p ls) : Inl (buf ++ x) p ls := by
  induction h with
  | nil => exact .nil
  | cons h1 h2 h3 h4 ih => exact .cons (by simp; omega) (by rw [getD_app (by omega)]; exact h2) h3 ih
theorem Inl.take {buf : List UInt8} {p n : Nat} {ls : List Lab} (h : Inl buf p ls) (hn : p + sumL ls ≤ n) : Inl (buf.take n) p ls := by
  induction h with
  | nil => exact .nil
  | @cons p l r h1 h2 h3 h4 ih =>
    rw [sumL_cons] at hn
    refine .cons (by rw [List.length_take]; omega) ?_ h3 (ih (by omega))
    rw [← h2]
    simp only [List.getD_eq_getElem?_getD]
    rw [List.getElem?_take_of_lt (by omega)]
theorem Inl.need {buf : List UInt8} {p : Nat} {ls : List Lab} (h : Inl buf p ls) : ∀ (start saved nl : Nat) (name : List (List UInt8)), nl + sumL ls ≤ 255 → buf.length ≤ p + sumL ls → ∃ n, Unp buf n p start saved nl name .need := by
  induction h with
  | nil => exact fun start saved nl name _ h2 => ⟨0, .need (by rw [sumL_nil] at h2; omega)⟩
  | @cons p l r h1 h2 h3 h4 ih =>
    intro start saved nl name hs hb
    rw [sumL_cons] at hs hb
    obtain ⟨n, hn⟩ := ih start saved (nl + (l.length + 1)) (name ++ [(buf.drop (p + 1)).take l.length]) (by omega) (by omega)
    exact ⟨n + 1, .lab l.length (by omega) (by rw [h2, u8 (by have := h3.2.2; omega)]) h3.2.1 (by have := h3.2.2; omega) (by omega) hn⟩
end Mine
end
section
open PySem PySem.W PyProof.Rows
set_option maxRecDepth 100000
namespace Mine
set_option linter.unusedVariables false
def walkT (eb : EB) : List Lab → List Lab
  | [] => []
  | l :: r => match look eb (keyS (l :: r)) with
    | some x => x.2
    | none => l :: walkT eb r
def walkX (eb : EB) : List Lab → List UInt8
  | [] => [0]
  | l :: r => match look eb (keyS (l :: r)) with
    | some x => [(192 + x.1 / 256).toUInt8, (x.1 % 256).toUInt8]
    | none => encL l ++ walkX eb r
def walkW (eb : EB) : List Lab → Bool
  | [] => true
  | l :: r => match look eb (keyS (l :: r)) with
    | some _ => false
    | none => walkW eb r
def walkEB (eb : EB) : Nat → List Lab → EB
  | _, [] => []
  | p, l :: r => match look eb (keyS (l :: r)) with
    | some _ => []
    | none => (keyS (l :: r), p, l :: walkT eb r) :: walkEB eb (p + (l.length + 1)) r
theorem encL_len (l : Lab) : (encL l).length = l.length + 1 := by simp [encL, bOf]
theorem walkName_eq (off : Nat) (eb : EB) : ∀ (ls : List Lab) (due : List UInt8) (read : List Lab), walkName off eb ls due read = (due ++ walkX eb ls, read ++ walkT eb ls, walkW eb ls, ksOf (walkEB eb (off + due.length) ls))
  | [], due, read => by simp [walkName, walkX, walkT, walkW, walkEB, ksOf]
  | l :: r, due, read => by
    rw [walkName, walkX, walkT, walkW, walkEB]
    cases look eb (keyS (l :: r)) with
    | some x => simp [ksOf]
    | none =>
      dsimp only
      rw [walkName_eq off eb r]
      simp [ksOf, encL_len, Nat.add_assoc]
theorem walkEB_get (eb : EB) : ∀ (ls : List Lab) (p j : Nat) (e : List Nat × Nat × List Lab), (walkEB eb p ls)[j]? = some e → e.2.2 = (walkT eb ls).drop j ∧ e.1 = keyS (ls.drop j) ∧ j < ls.length
  | [], p, j, e, h => by simp [walkEB] at h
  | l :: r, p, j, e, h => by
    rw [walkEB] at h
    rw [walkT]
    cases hq : look eb (keyS (l :: r)) with
    | some x => rw [hq] at h; simp at h
    | none =>
      rw [hq] at h
      dsimp only at h ⊢
      cases j with
      | zero => simp at h; subst h; simp
      | succ j =>
        have := walkEB_get eb r _ j e (by simpa using h)
        simpa using this
theorem walkEB_break (eb : EB) : ∀ (ls : List Lab) (p : Nat), (walkEB eb p ls).length ≤ ls.length ∧ ((walkEB eb p ls).length < ls.length → look eb (keyS (ls.drop (walkEB eb p ls).length)) ≠ none) ∧ (∀ j, j < (walkEB eb p ls).length → look eb (keyS (ls.drop j)) = none)
  | [], p => by simp [walkEB]
  | l :: r, p => by
    rw [walkEB]
    cases hq : look eb (keyS (l :: r)) with
    | some x => simp [hq]
    | none =>
      dsimp only
      obtain ⟨h1, h2, h3⟩ := walkEB_break eb r (p + (l.length + 1))
      refine ⟨by simpa using h1, fun h => by simpa using h2 (by simpa using h), fun j hj => ?_⟩
      cases j with
      | zero => simpa using hq
      | succ j => simpa using h3 j (by simpa using hj)
theorem look_mem {α β : Type} [DecidableEq α] {tb : List (α × β)} {k : α} {x : β} (h : look tb k = some x) : (k, x) ∈ tb := by
  unfold look at h
  obtain ⟨y, hy, e⟩ := Option.map_eq_some_iff.mp h
  have h1 := List.mem_of_find?_eq_some hy
  have h2 := List.find?_some hy
  have h3 : y.1 = k := by simpa using h2
  rw [← h3, ← e]; exact h1
theorem look_none {α β : Type} [DecidableEq α] {tb : List (α × β)} {k : α} : look tb k = none ↔ ∀ e ∈ tb, e.1 ≠ k := by
  unfold look
  rw [Option.map_eq_none_iff, List.find?_eq_none]
  simp
theorem sumL_key {ls : List Lab} (h : ls ≠ []) : sumL ls = (keyS ls).length + 1 := by
  unfold keyS
  rw [List.length_map]
  induction ls with
  | nil => exact absurd rfl h
  | cons l r ih =>
    rw [sumL_cons]
    cases r with
    | nil => simp [sumL, joinL]
    | cons x r => rw [ih (by simp)]; simp [joinL]; omega
theorem app_dot {a b x y : List Nat} (ha : (46 : Nat) ∉ a) (hb : (46 : Nat) ∉ b) (h : a ++ 46 :: x = b ++ 46 :: y) : x = y := by
  induction a generalizing b with
  | nil =>
    cases b with
    | nil => simpa using h
    | cons c b => simp at h; exact absurd (by simp [h.1]) hb
  | cons c a ih =>
    cases b with
    | nil => simp at h; exact absurd (by simp [h.1]) ha
    | cons d b => simp at h; exact ih (fun m => ha (.tail _ m)) (fun m => hb (.tail _ m)) h.2
theorem lab_dot {l : Lab} (h : LabOk l) : (46 : Nat) ∉ l.map up1 := by
  intro hm
  obtain ⟨c, hc, e⟩ := List.mem_map.mp hm
  exact okCp_up (List.all_eq_true.mp h.1 c hc) e
theorem keyS_cons {l x : Lab} {r : List Lab} : keyS (l :: x :: r) = l.map up1 ++ 46 :: keyS (x :: r) := by
  unfold keyS
  simp only [joinL, List.map_append, List.map_cons, List.map_nil]
  simp [up1]
theorem keyS_one {l : Lab} : keyS [l] = l.map up1 := rfl
theorem key_tail {l l' : Lab} {r r' : List Lab} (h : LabOk l) (h' : LabOk l') (e : keyS (l :: r) = keyS (l' :: r')) : (r = [] ↔ r' = []) ∧ keyS r = keyS r' := by
  cases r with
  | nil =>
    cases r' with
    | nil => simp
    | cons x r' =>
      rw [keyS_one, keyS_cons] at e
      exact absurd (by rw [e]; simp) (lab_dot h)
  | cons x r =>
    cases r' with
    | nil =>
      rw [keyS_one, keyS_cons] at e
      exact absurd (by rw [← e]; simp) (lab_dot h')
    | cons x' r' =>
      rw [keyS_cons, keyS_cons] at e
      exact ⟨by simp, app_dot (lab_dot h) (lab_dot h') e⟩
structure Good (buf : List UInt8) (eb : EB) : Prop where
  rd : ∀ e ∈ eb, (∃ b, Rd buf e.2.1 e.2.1 e.2.2 b) ∧ e.1 = keyS e.2.2 ∧ e.2.2 ≠ [] ∧ (∀ l ∈ e.2.2, LabOk l) ∧ e.2.1 < 16384 ∧ e.2.1 < buf.length
  clos : ∀ e ∈ eb, ∀ l r, e.2.2 = l :: r → r ≠ [] → ∃ e' ∈ eb, e'.1 = keyS r
section
variable {buf : List UInt8} {eb : EB}
theorem walk_key (G : Good buf eb) : ∀ ls : List Lab, (∀ l ∈ ls, LabOk l) → keyS (walkT eb ls) = keyS ls ∧ (walkT eb ls = [] ↔ ls = []) ∧ (∀ l ∈ walkT eb ls, LabOk l)
  | [], _ => by simp [walkT]
  | l :: r, h => by
    rw [walkT]
    cases hq : look eb (keyS (l :: r)) with
    | some x =>
      obtain ⟨_, h2, h3, h4, _⟩ := G.rd _ (look_mem hq)
      exact ⟨h2.symm, by simpa using h3, h4⟩
    | none =>
      dsimp only
      obtain ⟨i1, i2, i3⟩ := walk_key G r fun x hx => h x (.tail _ hx)
      refine ⟨?_, by simp, fun x hx => ?_⟩
      · cases r with
        | nil => simp [walkT]
        | cons y r =>
          cases hw : walkT eb (y :: r) with
          | nil => exact absurd (i2.mp hw) (by simp)
          | cons z t => rw [hw] at i1; rw [keyS_cons, keyS_cons, i1]
      · rcases List.mem_cons.mp hx with rfl | hx
        · exact h _ (.head _)
        · exact i3 x hx
theorem walk_sum (G : Good buf eb) {ls : List Lab} (h : ∀ l ∈ ls, LabOk l) : sumL (walkT eb ls) = sumL ls := by
  obtain ⟨i1, i2, _⟩ := walk_key G ls h
  by_cases hn : ls = []
  · rw [hn]; rfl
  · rw [sumL_key hn, sumL_key (fun q => hn (i2.mp q)), i1]
theorem at_app {a b : List UInt8} {i : Nat} (h : i = a.length) {c : UInt8} : (a ++ c :: b).getD i 0 = c := by
  subst h; simp [List.getD_eq_getElem?_getD]
theorem walk_rd (G : Good buf eb) : ∀ (ls : List Lab) (d : List UInt8), (∀ l ∈ ls, LabOk l) → Rd (buf ++ (d ++ walkX eb ls)) buf.length (buf.length + d.length) (walkT eb ls) (buf.length + d.length + (walkX eb ls).length)
  | [], d, _ => by
    rw [walkX, walkT]
    refine .zero (by simp) ?_
    rw [← List.append_assoc]; exact at_app (by simp)
  | l :: r, d, h => by
    rw [walkX, walkT]
    cases hq : look eb (keyS (l :: r)) with
    | some x =>
      obtain ⟨⟨e, hr⟩, h2, h3, h4, h5, h6⟩ := G.rd _ (look_mem hq)
      dsimp only at hr h5 h6 ⊢
      refine .ptr (q := x.1) (e := e) (by simp; omega) ?_ ?_ h5 h6 hr.app
      · rw [← List.append_assoc]; exact at_app (by simp)
      · have e1 : buf ++ (d ++ [(192 + x.1 / 256).toUInt8, (x.1 % 256).toUInt8]) = (buf ++ d ++ [(192 + x.1 / 256).toUInt8]) ++ (x.1 % 256).toUInt8 :: [] := by simp
        rw [e1]; exact at_app (by simp; omega)
    | none =>
      dsimp only
      have hl := h _ (.head _)
      have ih := walk_rd G r (d ++ encL l) fun x hx => h x (.tail _ hx)
      have e1 : buf ++ (d ++ (encL l ++ walkX eb r)) = buf ++ (d ++ encL l ++ walkX eb r) := by simp
      have e2 : buf.length + (d ++ encL l).length = buf.length + d.length + 1 + l.length := by rw [List.length_append, encL_len]; omega
      have e3 : (encL l ++ walkX eb r).length = l.length + 1 + (walkX eb r).length := by rw [List.length_append, encL_len]
      rw [e1, e3]
      rw [e2] at ih
      refine .lab ?_ ?_ hl ?_ ?_
      · simp only [List.length_append, encL_len]; omega
      · have e4 : buf ++ (d ++ encL l ++ walkX eb r) = (buf ++ d) ++ l.length.toUInt8 :: (bOf l ++ walkX eb r) := by simp [encL]
        rw [e4]; exact at_app (by simp)
      · have e4 : buf ++ (d ++ encL l ++ walkX eb r) = (buf ++ d ++ [l.length.toUInt8]) ++ (bOf l ++ walkX eb r) := by simp [encL]
        rw [e4, List.drop_left' (by simp; omega)]
        rw [List.take_left' (by simp [bOf])]
      · have e5 : buf.length + d.length + (l.length + 1 + (walkX eb r).length) = buf.length + d.length + 1 + l.length + (walkX eb r).length := by omega
        rw [e5]; exact ih
theorem walk_eb (G : Good buf eb) : ∀ (ls : List Lab) (d : List UInt8), (∀ l ∈ ls, LabOk l) → buf.length + d.length + sumL ls < 16384 → ∀ e ∈ walkEB eb (buf.length + d.length) ls,
    (∃ b, Rd (buf ++ (d ++ walkX eb ls)) e.2.1 e.2.1 e.2.2 b) ∧ e.1 = keyS e.2.2 ∧ e.2.2 ≠ [] ∧ (∀ l ∈ e.2.2, LabOk l) ∧ e.2.1 < 16384 ∧ e.2.1 < (buf ++ (d ++ walkX eb ls)).length
  | [], d, _, _, e, he => by simp [walkEB] at he
  | l :: r, d, h, hs, e, he => by
    have hrd := walk_rd G (l :: r) d h
    obtain ⟨k1, k2, k3⟩ := walk_key G (l :: r) h
    rw [sumL_cons] at hs
    rw [walkEB] at he
    rw [walkX] at hrd ⊢
    rw [walkT] at hrd k1 k3
    cases hq : look eb (keyS (l :: r)) with
    | some x => rw [hq] at he; simp at he
    | none =>
      rw [hq] at he hrd k1 k3
      dsimp only at he hrd k1 k3 ⊢
      rcases List.mem_cons.mp he with rfl | he
      · dsimp only
        refine ⟨⟨_, hrd.mono (by omega)⟩, k1.symm, by simp, k3, by omega, ?_⟩
        simp only [List.length_append, encL_len]; omega
      · have e2 : buf.length + (d ++ encL l).length = buf.length + d.length + (l.length + 1) := by rw [List.length_append, encL_len]; omega
        have := walk_eb G r (d ++ encL l) (fun x hx => h x (.tail _ hx)) (by rw [e2]; omega) e (by rw [e2]; exact he)
        have e1 : buf ++ (d ++ (encL l ++ walkX eb r)) = buf ++ (d ++ encL l ++ walkX eb r) := by simp
        rw [e1]; exact this
theorem walk_clos (G : Good buf eb) : ∀ (ls : List Lab) (p : Nat), (∀ l ∈ ls, LabOk l) → ∀ e ∈ walkEB eb p ls, ∀ l r, e.2.2 = l :: r → r ≠ [] → ∃ e' ∈ eb ++ walkEB eb p ls, e'.1 = keyS r
  | [], p, _, e, he, _, _, _, _ => by simp [walkEB] at he
  | l :: r, p, h, e, he, l', r', hr, hn => by
    rw [walkEB] at he ⊢
    cases hq : look eb (keyS (l :: r)) with
    | some x => rw [hq] at he; simp at he
    | none =>
      rw [hq] at he
      dsimp only at he ⊢
      have h' : ∀ x ∈ r, LabOk x := fun x hx => h x (.tail _ hx)
      rcases List.mem_cons.mp he with rfl | he
      · dsimp only at hr
        injection hr with e1 e2
        subst e1 e2
        obtain ⟨k1, k2, _⟩ := walk_key G r h'
        have hr0 : r ≠ [] := fun q => hn (k2.mpr q)
        cases hq2 : look eb (keyS r) with
        | some x => exact ⟨_, List.mem_append_left _ (look_mem hq2), k1.symm⟩
        | none =>
          cases r with
          | nil => exact absurd rfl hr0
          | cons y r =>
            refine ⟨(keyS (y :: r), p + (l.length + 1), y :: walkT eb r), List.mem_append_right _ (.tail _ ?_), k1.symm⟩
            rw [walkEB, hq2]; exact .head _
      · obtain ⟨e', he', hk⟩ := walk_clos G r _ h' e he l' r' hr hn
        refine ⟨e', ?_, hk⟩
        rcases List.mem_append.mp he' with he' | he'
        · exact List.mem_append_left _ he'
        · exact List.mem_append_right _ (.tail _ he')
theorem walk_good (G : Good buf eb) {ls : List Lab} (h : ∀ l ∈ ls, LabOk l) (hs : buf.length + sumL ls < 16384) : Good (buf ++ walkX eb ls) (eb ++ walkEB eb buf.length ls) := by
  constructor
  · intro e he
    rcases List.mem_append.mp he with he | he
    · obtain ⟨⟨b, h1⟩, h2, h3, h4, h5, h6⟩ := G.rd e he
      exact ⟨⟨b, h1.app⟩, h2, h3, h4, h5, by simp; omega⟩
    · have := walk_eb G ls [] h (by simpa using hs) e (by simpa using he)
      simpa using this
  · intro e he l r hr hn
    rcases List.mem_append.mp he with he | he
    · obtain ⟨e', h1, h2⟩ := G.clos e he l r hr hn
      exact ⟨e', List.mem_append_left _ h1, h2⟩
    · exact walk_clos G ls _ h e he l r hr hn
theorem closed_drop (G : Good buf eb) : ∀ (ls : List Lab) (j : Nat), (∀ l ∈ ls, LabOk l) → (∃ e ∈ eb, e.1 = keyS ls) → j < ls.length → ∃ e ∈ eb, e.1 = keyS (ls.drop j)
  | ls, 0, _, h2, _ => by simpa using h2
  | [], j + 1, _, _, h3 => by simp at h3
  | l :: r, j + 1, h1, ⟨e, he, hk⟩, h3 => by
    obtain ⟨_, h4, h5, h6, _⟩ := G.rd e he
    have hj : j < r.length := by simpa using h3
    have hr : r ≠ [] := fun q => by rw [q] at hj; simp at hj
    cases hrest : e.2.2 with
    | nil => exact absurd hrest h5
    | cons l' r' =>
      rw [hrest] at h4 h6
      obtain ⟨t1, t2⟩ := key_tail (h1 l (.head _)) (h6 l' (.head _)) (hk.symm.trans h4)
      obtain ⟨e', he', hk'⟩ := G.clos e he l' r' hrest (fun q => hr (t1.mpr q))
      have := closed_drop G r j (fun x hx => h1 x (.tail _ hx)) ⟨e', he', hk'.trans t2.symm⟩ hj
      simpa using this
theorem walk_whole : ∀ (ls : List Lab) (d : List UInt8), (∀ l ∈ ls, LabOk l) → walkW eb ls = true → walkT eb ls = ls ∧ (walkX eb ls).length = sumL ls + 1 ∧ Inl (buf ++ (d ++ walkX eb ls)) (buf.length + d.length) ls
  | [], d, _, _ => by simp [walkT, walkX, sumL]; exact .nil
  | l :: r, d, h, hw => by
    rw [walkW] at hw
    rw [walkT, walkX, sumL_cons]
    cases hq : look eb (keyS (l :: r)) with
    | some x => rw [hq] at hw; simp at hw
    | none =>
      rw [hq] at hw
      dsimp only at hw ⊢
      have hl := h _ (.head _)
      obtain ⟨i1, i2, i3⟩ := walk_whole r (d ++ encL l) (fun x hx => h x (.tail _ hx)) hw
      have e1 : buf ++ (d ++ (encL l ++ walkX eb r)) = buf ++ (d ++ encL l ++ walkX eb r) := by simp
      have e2 : buf.length + (d ++ encL l).length = buf.length + d.length + 1 + l.length := by rw [List.length_append, encL_len]; omega
      rw [e2] at i3
      refine ⟨by rw [i1], by rw [List.length_append, encL_len]; omega, ?_⟩
      rw [e1]
      refine .cons ?_ ?_ hl i3
      · simp only [List.length_append, encL_len]; omega
      · have e4 : buf ++ (d ++ encL l ++ walkX eb r) = (buf ++ d) ++ l.length.toUInt8 :: (bOf l ++ walkX eb r) := by simp [encL]
        rw [e4]; exact at_app (by simp)
end
end Mine
end
section
open PySem PySem.W PyProof.Rows
set_option maxRecDepth 100000
namespace Mine
set_option linter.unusedVariables false
def hi (q : Nat) : UInt8 := (192 + q / 256).toUInt8
def lo (q : Nat) : UInt8 := (q % 256).toUInt8
def encB (c : List UInt8) : List UInt8 := c.length.toUInt8 :: c
def sumB (cs : List (List UInt8)) : Nat := (cs.map fun c => c.length + 1).sum
theorem sumB_cons (c : List UInt8) (r : List (List UInt8)) : sumB (c :: r) = c.length + 1 + sumB r := by simp [sumB]
theorem encB_len (cs : List (List UInt8)) : ((cs.map encB).flatten).length = sumB cs := by
  induction cs with
  | nil => rfl
  | cons c r ih => rw [List.map_cons, List.flatten_cons, List.length_append, ih, sumB_cons]; simp [encB]
theorem getD_r (a b : List UInt8) (i : Nat) : (a ++ b).getD (a.length + i) 0 = b.getD i 0 := by
  rw [List.getD_eq_getElem?_getD, List.getD_eq_getElem?_getD, List.getElem?_append_right (by omega), Nat.add_sub_cancel_left]
theorem Unp.bad_ptr {X : List UInt8} {h off start saved nl q : Nat} {name : List (List UInt8)} (h1 : off + 1 < X.length) (h2 : X.getD off 0 = hi q) (h3 : X.getD (off + 1) 0 = lo q) (hq : q < 16384) (hs : start ≤ q) : Unp X h off start saved nl name .refused := by
  refine .ptrBad h1 h2 h3 ?_ ?_
  · rw [hi, u8 (by omega)]; omega
  · rw [hi, lo, u8 (by omega), u8 (by omega)]; omega
theorem Unp.good_ptr {X : List UInt8} {h off start saved nl q : Nat} {name : List (List UInt8)} {r : UR} (h1 : off + 1 < X.length) (h2 : X.getD off 0 = hi q) (h3 : X.getD (off + 1) 0 = lo q) (hq : q < 16384) (hs : q < start) (h4 : Unp X h q q (if saved = 0 then off + 2 else saved) nl name r) : Unp X (h + 1) off start saved nl name r := by
  refine .ptr q h1 h2 h3 ?_ ?_ hs h4
  · rw [hi, u8 (by omega)]; omega
  · rw [hi, lo, u8 (by omega), u8 (by omega)]; omega
/-- a run of labels -/
theorem Unp.run {post : List UInt8} {h start saved : Nat} {r : UR} : ∀ (cs : List (List UInt8)) (pre : List UInt8) (nl : Nat) (name : List (List UInt8)), (∀ c ∈ cs, 1 ≤ c.length ∧ c.length ≤ 63) → nl + sumB cs ≤ 255 →
    Unp (pre ++ ((cs.map encB).flatten ++ post)) h (pre.length + sumB cs) start saved (nl + sumB cs) (name ++ cs) r → ∃ h', Unp (pre ++ ((cs.map encB).flatten ++ post)) h' pre.length start saved nl name r
  | [], pre, nl, name, _, _, hu => ⟨h, by simpa [sumB] using hu⟩
  | c :: cs, pre, nl, name, hc, hs, hu => by
    rw [sumB_cons] at hs hu
    obtain ⟨c1, c2⟩ := hc c (.head _)
    have e : pre ++ (((c :: cs).map encB).flatten ++ post) = (pre ++ encB c) ++ ((cs.map encB).flatten ++ post) := by simp
    have el : (pre ++ encB c).length = pre.length + 1 + c.length := by simp [encB]; omega
    obtain ⟨n, hn⟩ := Unp.run cs (pre ++ encB c) (nl + (c.length + 1)) (name ++ [c]) (fun x hx => hc x (.tail _ hx)) (by omega) (by
      rw [← e, el]
      have e1 : pre.length + 1 + c.length + sumB cs = pre.length + (c.length + 1 + sumB cs) := by omega
      have e2 : nl + (c.length + 1) + sumB cs = nl + (c.length + 1 + sumB cs) := by omega
      have e3 : name ++ [c] ++ cs = name ++ c :: cs := by simp
      rw [e1, e2, e3]; exact hu)
    rw [← e, el] at hn
    refine ⟨n + 1, .lab c.length ?_ ?_ c1 (by omega) (by omega) ?_⟩
    · simp [encB]
    · have e4 : pre ++ (((c :: cs).map encB).flatten ++ post) = pre ++ c.length.toUInt8 :: (c ++ ((cs.map encB).flatten ++ post)) := by simp [encB]
      rw [e4, at_app rfl, u8 (by omega)]
    · have e5 : ((pre ++ (((c :: cs).map encB).flatten ++ post)).drop (pre.length + 1)).take c.length = c := by
        have e4 : pre ++ (((c :: cs).map encB).flatten ++ post) = (pre ++ [c.length.toUInt8]) ++ (c ++ ((cs.map encB).flatten ++ post)) := by simp [encB]
        rw [e4, List.drop_left' (by simp), List.take_left' rfl]
      rw [e5]; exact hn
section
variable (buf z : List UInt8)
theorem around0 (hH : buf.length < 16384) : ∃ n, Unp (buf ++ ([hi buf.length, lo buf.length] ++ z)) n buf.length buf.length 0 0 [] .refused :=
  ⟨0, .bad_ptr (by simp) (getD_r buf _ 0) (getD_r buf _ 1) hH (by omega)⟩
theorem around2 (hH : buf.length + 9 < 16384) : ∃ n, Unp (buf ++ ([hi (buf.length + 9), lo (buf.length + 9)] ++ z)) n buf.length buf.length 0 0 [] .refused :=
  ⟨0, .bad_ptr (by simp) (getD_r buf _ 0) (getD_r buf _ 1) hH (by omega)⟩
theorem around3 : ∃ n, Unp (buf ++ ([64, 0] ++ z)) n buf.length buf.length 0 0 [] .refused :=
  ⟨0, .bad (by simp) (.inl (by have := getD_r buf ([64, 0] ++ z) 0; rw [Nat.add_zero] at this; rw [this]; rfl))⟩
theorem around1 (hH : buf.length < 16384) : ∃ n, Unp (buf ++ ([1, 97, hi buf.length, lo buf.length] ++ z)) n buf.length buf.length 0 0 [] .refused := by
  have := Unp.run (h := 0) (start := buf.length) (saved := 0) (r := .refused) (post := [hi buf.length, lo buf.length] ++ z) [[97]] buf 0 [] (by simp) (by simp [sumB]) (.bad_ptr (q := buf.length) (by simp [sumB, encB]; omega) (getD_r buf (1 :: 97 :: hi buf.length :: lo buf.length :: z) 2) (getD_r buf (1 :: 97 :: hi buf.length :: lo buf.length :: z) 3) hH (by omega))
  simpa [encB] using this
theorem around4 : ∃ n, Unp (buf ++ ([1, 97, 128, 0] ++ z)) n buf.length buf.length 0 0 [] .refused := by
  have := Unp.run (h := 0) (start := buf.length) (saved := 0) (r := .refused) (post := [128, 0] ++ z) [[97]] buf 0 [] (by simp) (by simp [sumB]) (.bad (by simp [sumB, encB]) (.inr (by
    have h := getD_r buf (1 :: 97 :: 128 :: 0 :: z) 2
    have h' : (buf ++ (([[97]].map encB).flatten ++ ([128, 0] ++ z))).getD (buf.length + sumB [[97]]) 0 = (128 : UInt8) := h
    rw [h']; rfl)))
  simpa [encB] using this
theorem around5 (hH : buf.length + 2 < 16384) : ∃ n, Unp (buf ++ ([2, 97, 0, hi (buf.length + 2), lo (buf.length + 2)] ++ z)) n buf.length buf.length 0 0 [] .refused := by
  have := Unp.run (h := 0) (start := buf.length) (saved := 0) (r := .refused) (post := [hi (buf.length + 2), lo (buf.length + 2)] ++ z) [[97, 0]] buf 0 [] (by simp) (by simp [sumB]) (.bad_ptr (q := buf.length + 2) (by simp [sumB, encB]; omega) (getD_r buf (2 :: 97 :: 0 :: hi (buf.length + 2) :: lo (buf.length + 2) :: z) 3) (getD_r buf (2 :: 97 :: 0 :: hi (buf.length + 2) :: lo (buf.length + 2) :: z) 4) hH (by omega))
  simpa [encB] using this
theorem twice (hH : buf.length < 16384) : ∃ n, Unp (buf ++ ([hi buf.length, lo buf.length] ++ [hi buf.length, lo buf.length])) n (buf.length + 2) (buf.length + 2) 0 0 [] .refused :=
  ⟨1, .good_ptr (h := 0) (q := buf.length) (by simp) (getD_r buf _ 2) (getD_r buf _ 3) hH (by omega) (.bad_ptr (by simp) (getD_r buf _ 0) (getD_r buf _ 1) hH (by omega))⟩
theorem mutual_ (hH : buf.length + 2 < 16384) : ∃ n, Unp (buf ++ ([hi (buf.length + 2), lo (buf.length + 2)] ++ [hi buf.length, lo buf.length])) n (buf.length + 2) (buf.length + 2) 0 0 [] .refused :=
  ⟨1, .good_ptr (h := 0) (q := buf.length) (by simp) (getD_r buf _ 2) (getD_r buf _ 3) (by omega) (by omega) (.bad_ptr (q := buf.length + 2) (by simp) (getD_r buf _ 0) (getD_r buf _ 1) hH (by omega))⟩
theorem behind_end : ∃ n, Unp buf n buf.length buf.length 0 0 [] .need := ⟨0, .need (by omega)⟩
theorem most (cs : List (List UInt8)) (hc : ∀ c ∈ cs, 1 ≤ c.length ∧ c.length ≤ 63) (hs : sumB cs ≤ 255) : ∃ n, Unp (buf ++ ((cs.map encB).flatten ++ [0])) n buf.length buf.length 0 0 [] (.done cs (buf.length + sumB cs + 1)) := by
  refine Unp.run (h := 0) cs buf 0 [] hc (by omega) ?_
  have hz : (buf ++ ((cs.map encB).flatten ++ [0])).getD (buf.length + sumB cs) 0 = 0 := by
    rw [getD_r, ← encB_len cs]
    exact at_app rfl
  have := Unp.zero (h := 0) (off := buf.length + sumB cs) (start := buf.length) (saved := 0) (nl := 0 + sumB cs) (name := [] ++ cs) (buf := buf ++ ((cs.map encB).flatten ++ [0])) (by simp only [List.length_append, encB_len, List.length_singleton]; omega) hz
  simpa using this
theorem tooLong_ (cs : List (List UInt8)) (c : List UInt8) (hc : ∀ c ∈ cs, 1 ≤ c.length ∧ c.length ≤ 63) (hs : sumB cs ≤ 255) (h1 : 1 ≤ c.length) (h2 : c.length ≤ 63) (h3 : 255 < sumB cs + (c.length + 1)) : ∃ n, Unp (buf ++ ((cs.map encB).flatten ++ (encB c ++ z))) n buf.length buf.length 0 0 [] .refused := by
  refine Unp.run (h := 0) cs buf 0 [] hc (by omega) (.long c.length ?_ ?_ h1 (by omega) (by omega))
  · simp only [List.length_append, encB_len]; simp [encB]; omega
  · rw [getD_r, ← encB_len cs]
    have e : (cs.map encB).flatten ++ (encB c ++ z) = (cs.map encB).flatten ++ c.length.toUInt8 :: (c ++ z) := by simp [encB]
    rw [e, at_app rfl, u8 (by omega)]
theorem by_way (cs : List (List UInt8)) (c : List UInt8) (hcs : cs = [c, c, c]) (hc : c.length = 63) (hH : buf.length < 16384) : ∃ n, Unp (buf ++ ((cs.map encB).flatten ++ ([0] ++ ((cs.map encB).flatten ++ [hi buf.length, lo buf.length])))) n (buf.length + sumB cs + 1) (buf.length + sumB cs + 1) 0 0 [] .refused := by
  have hsum : sumB cs = 192 := by subst hcs; simp [sumB, hc]
  have hall : ∀ x ∈ cs, 1 ≤ x.length ∧ x.length ≤ 63 := by subst hcs; intro x hx; simp at hx; subst hx; omega
  have e : buf ++ ((cs.map encB).flatten ++ ([0] ++ ((cs.map encB).flatten ++ [hi buf.length, lo buf.length]))) = (buf ++ ((cs.map encB).flatten ++ [0])) ++ ((cs.map encB).flatten ++ [hi buf.length, lo buf.length]) := by simp
  have el : (buf ++ ((cs.map encB).flatten ++ [0])).length = buf.length + sumB cs + 1 := by simp only [List.length_append, encB_len, List.length_singleton]; omega
  have := Unp.run (h := 1) (start := buf.length + sumB cs + 1) (saved := 0) (r := .refused) (post := [hi buf.length, lo buf.length]) cs (buf ++ ((cs.map encB).flatten ++ [0])) 0 [] hall (by omega) (.good_ptr (h := 0) (q := buf.length) ?_ ?_ ?_ hH (by omega) (.long 63 ?_ ?_ (by omega) (by omega) (by omega)))
  · rw [el, ← e] at this; exact this
  · simp only [List.length_append, encB_len, List.length_cons, List.length_nil]; omega
  · have := getD_r (buf ++ ((cs.map encB).flatten ++ [0]) ++ (cs.map encB).flatten) [hi buf.length, lo buf.length] 0
    rw [List.length_append, encB_len, Nat.add_zero, List.append_assoc] at this
    exact this
  · have := getD_r (buf ++ ((cs.map encB).flatten ++ [0]) ++ (cs.map encB).flatten) [hi buf.length, lo buf.length] 1
    rw [List.length_append, encB_len, List.append_assoc] at this
    exact this
  · rw [← e]; simp only [List.length_append, encB_len, hsum]; omega
  · rw [← e]
    subst hcs
    have e3 : buf ++ ((([c, c, c].map encB).flatten) ++ ([0] ++ (([c, c, c].map encB).flatten ++ [hi buf.length, lo buf.length]))) = buf ++ c.length.toUInt8 :: (c ++ (encB c ++ encB c ++ ([0] ++ (([c, c, c].map encB).flatten ++ [hi buf.length, lo buf.length])))) := by simp [encB]
    rw [e3, at_app rfl, u8 (by omega), hc]
end
end Mine
end
section
open PySem PySem.W PyProof.Rows
set_option maxRecDepth 100000
namespace Mine
set_option linter.unusedVariables false
theorem walk_split (eb : EB) : ∀ (ls : List Lab) (p i : Nat), i ≤ (walkEB eb p ls).length → walkX eb ls = ((ls.take i).map encL).flatten ++ walkX eb (ls.drop i) ∧ walkT eb ls = ls.take i ++ walkT eb (ls.drop i) ∧ walkW eb ls = walkW eb (ls.drop i)
  | ls, p, 0, _ => by simp
  | [], p, i + 1, h => by simp [walkEB] at h
  | l :: r, p, i + 1, h => by
    rw [walkEB] at h
    cases hq : look eb (keyS (l :: r)) with
    | some x => rw [hq] at h; simp at h
    | none =>
      rw [hq] at h
      obtain ⟨h1, h2, h3⟩ := walk_split eb r _ i (by simpa using h)
      rw [walkX, walkT, walkW, hq]
      dsimp only
      rw [h1, h2, h3]
      simp
theorem walkEB_place (eb : EB) : ∀ (ls : List Lab) (p j : Nat) (e : List Nat × Nat × List Lab), (walkEB eb p ls)[j]? = some e → e.2.1 = p + sumL (ls.take j)
  | [], p, j, e, h => by simp [walkEB] at h
  | l :: r, p, j, e, h => by
    rw [walkEB] at h
    cases hq : look eb (keyS (l :: r)) with
    | some x => rw [hq] at h; simp at h
    | none =>
      rw [hq] at h
      dsimp only at h
      cases j with
      | zero => simp at h; subst h; simp [sumL]
      | succ j =>
        have := walkEB_place eb r _ j e (by simpa using h)
        rw [this, List.take_succ_cons, sumL_cons]; omega
theorem enc_len (ls : List Lab) : ((ls.map encL).flatten).length = sumL ls := by
  induction ls with
  | nil => rfl
  | cons l r ih => rw [List.map_cons, List.flatten_cons, List.length_append, ih, encL_len, sumL_cons]
/-- one turn on: the next new end -/
theorem walk_next {eb : EB} {ls : List Lab} {p i : Nat} (h : i ≤ (walkEB eb p ls).length) (hi : i < ls.length) (hn : look eb (keyS (ls.drop i)) = none) :
    i + 1 ≤ (walkEB eb p ls).length ∧ ksOf ((walkEB eb p ls).take (i + 1)) = ksOf ((walkEB eb p ls).take i) ++ [(keyS (ls.drop i), p + sumL (ls.take i))] := by
  have hlt : i < (walkEB eb p ls).length := by
    rcases Nat.lt_or_ge i (walkEB eb p ls).length with q | q
    · exact q
    · have e : (walkEB eb p ls).length = i := by omega
      have := (walkEB_break eb ls p).2.1 (by omega)
      rw [e] at this; exact absurd hn this
  refine ⟨hlt, ?_⟩
  have hg : (walkEB eb p ls)[i]? = some ((walkEB eb p ls)[i]) := List.getElem?_eq_getElem hlt
  obtain ⟨_, h2, _⟩ := walkEB_get eb ls p i _ hg
  have h3 := walkEB_place eb ls p i _ hg
  rw [List.take_succ_eq_append_getElem hlt]
  unfold ksOf
  rw [List.map_append, List.map_cons, List.map_nil, h2, h3]
theorem walk_stop {eb : EB} {ls : List Lab} {p i q : Nat} {rest : List Lab} (h : i ≤ (walkEB eb p ls).length) (hil : i < ls.length) (hn : look eb (keyS (ls.drop i)) = some (q, rest)) :
    i = (walkEB eb p ls).length ∧ walkX eb ls = ((ls.take i).map encL).flatten ++ [hi q, lo q] ∧ walkT eb ls = ls.take i ++ rest ∧ walkW eb ls = false := by
  have he : i = (walkEB eb p ls).length := by
    rcases Nat.lt_or_ge i (walkEB eb p ls).length with z | z
    · have := (walkEB_break eb ls p).2.2 i z
      rw [hn] at this; cases this
    · omega
  obtain ⟨h1, h2, h3⟩ := walk_split eb ls p i h
  obtain ⟨l, r, hd⟩ : ∃ l r, ls.drop i = l :: r := by
    cases hq : ls.drop i with
    | nil => have := congrArg List.length hq; simp at this; omega
    | cons l r => exact ⟨l, r, rfl⟩
  rw [hd] at hn h1 h2 h3
  rw [walkX, hn] at h1
  rw [walkT, hn] at h2
  rw [walkW, hn] at h3
  exact ⟨he, h1, h2, h3⟩
theorem walk_all {eb : EB} {ls : List Lab} {p : Nat} (h : ls.length ≤ (walkEB eb p ls).length) : walkX eb ls = (ls.map encL).flatten ++ [0] ∧ walkT eb ls = ls ∧ walkW eb ls = true ∧ (walkEB eb p ls).length = ls.length := by
  obtain ⟨h1, h2, h3⟩ := walk_split eb ls p ls.length h
  rw [List.take_length, List.drop_length] at h1 h2
  rw [List.drop_length] at h3
  refine ⟨h1, by simpa [walkT] using h2, h3, ?_⟩
  have := (walkEB_break eb ls p).1; omega
theorem key_less : ∀ (n : Nat) (ls : List Lab), (∀ l ∈ ls, LabOk l) → n < ls.length → (keyS (ls.drop (n + 1))).length < (keyS ls).length
  | _, [], _, h => absurd h (Nat.not_lt_zero _)
  | 0, l :: r, hl, _ => keyS_len l r (hl l (.head _)).2.1
  | n + 1, l :: r, hl, h => Nat.lt_trans (key_less n r (fun x hx => hl x (.tail _ hx)) (Nat.lt_of_succ_lt_succ h)) (keyS_len l r (hl l (.head _)).2.1)
theorem key_ne {ls : List Lab} {j k : Nat} (hls : ∀ l ∈ ls, LabOk l) (hj : j < k) (hk : k ≤ ls.length) : keyS (ls.drop j) ≠ keyS (ls.drop k) := fun q => by
  have := key_less (k - j - 1) (ls.drop j) (fun l hl => hls l (List.mem_of_mem_drop hl)) (by rw [List.length_drop]; omega)
  rw [List.drop_drop, show j + (k - j - 1 + 1) = k from by omega, q] at this
  exact Nat.lt_irrefl _ this
/-- the keys of the new ends that stand behind k are others -/
theorem keys_other {eb : EB} {ls : List Lab} {p j k : Nat} (hls : ∀ l ∈ ls, LabOk l) (hk : k < ls.length) {e : List Nat × Nat × List Lab} (he : (walkEB eb p ls)[j]? = some e) (hj : j ≠ k) : e.1 ≠ keyS (ls.drop k) := by
  obtain ⟨_, h2, h3⟩ := walkEB_get eb ls p j e he
  rw [h2]
  rcases Nat.lt_or_gt_of_ne hj with z | z
  · exact key_ne hls z (Nat.le_of_lt hk)
  · exact Ne.symm (key_ne hls z (Nat.le_of_lt h3))
theorem keys_longer {eb : EB} {ls : List Lab} {p i : Nat} (hls : ∀ l ∈ ls, LabOk l) (hi : i < ls.length) : ∀ e ∈ ksOf ((walkEB eb p ls).take i), e.1 ≠ keyS (ls.drop i) := by
  intro e he
  obtain ⟨x, hx, rfl⟩ := List.mem_map.mp he
  obtain ⟨j, hj, rfl⟩ := List.mem_iff_getElem.mp hx
  rw [List.length_take] at hj
  rw [List.getElem_take]
  exact keys_other (p := p) hls hi (List.getElem?_eq_getElem (Nat.lt_of_lt_of_le hj (Nat.min_le_right _ _))) (Nat.ne_of_lt (Nat.lt_of_lt_of_le hj (Nat.min_le_left _ _)))
end Mine
end
section
open PySem PySem.W PyProof.Rows PyProof.Rows.LCg
set_option maxRecDepth 100000
namespace Mine
set_option linter.unusedVariables false
def cpsOf (l : List (Str × Tok)) : List Lab := l.map fun p => p.1.cps.toList
theorem labOk_of {x : Str} (h : Label x) : LabOk x.cps.toList := ⟨h.1, by simpa using h.2.1, by simpa using h.2.2⟩
theorem cps_ok {l : List (Str × Tok)} (h : ∀ p ∈ l, Label p.1) : ∀ x ∈ cpsOf l, LabOk x := by
  intro x hx
  obtain ⟨p, hp, rfl⟩ := List.mem_map.mp hx
  exact labOk_of (h p hp)
theorem cpsOf_length (l : List (Str × Tok)) : (cpsOf l).length = l.length := by simp [cpsOf]
theorem cpsOf_append (a b : List (Str × Tok)) : cpsOf (a ++ b) = cpsOf a ++ cpsOf b := by simp [cpsOf]
theorem cpsOf_drop (a : List (Str × Tok)) (n : Nat) : cpsOf (a.drop n) = (cpsOf a).drop n := by simp [cpsOf, List.map_drop]
abbrev tupE (p : Nat) (tp : Tok) (R : Addr) : Obj := { cls := .type "tuple", data := .seq #[.int (p : Int) tp, .ref R] }
abbrev tupN (p : Nat) (tp : Tok) : Obj := { cls := .type "tuple", data := .seq #[.int (p : Int) tp, .none] }
abbrev tupP (at_ : Nat) (ta : Tok) (R : Addr) (be : Nat) (tb : Tok) (wh : Bool) : Obj := { cls := .type "tuple", data := .seq #[.int (at_ : Int) ta, .ref R, .int (be : Int) tb, .bool wh] }
inductive EndsAre (tl : List (Addr × Obj)) : List (Str × Value) → EB → Prop
  | nil : EndsAre tl [] []
  | cons {T R : Addr} {p c : Nat} {tp : Tok} {k : List Nat} {rest : List (Str × Tok)} {kvs : List (Str × Value)} {eb : EB} : (T, tupE p tp R) ∈ tl → (R, listOf (strValues rest).toArray c) ∈ tl → EndsAre tl kvs eb → EndsAre tl ((sOf k, .ref T) :: kvs) ((k, p, cpsOf rest) :: eb)
inductive NewAre (tl : List (Addr × Obj)) : List (Str × Value) → List (List Nat × Nat) → Prop
  | nil : NewAre tl [] []
  | cons {T : Addr} {p : Nat} {tp : Tok} {k : List Nat} {kvs : List (Str × Value)} {nb : List (List Nat × Nat)} : (T, tupN p tp) ∈ tl → NewAre tl kvs nb → NewAre tl ((sOf k, .ref T) :: kvs) ((k, p) :: nb)
abbrev PL := List (Nat × List Lab × Nat × Bool)
inductive PlacesAre (tl : List (Addr × Obj)) : List Value → PL → Prop
  | nil : PlacesAre tl [] []
  | cons {T R : Addr} {p be c : Nat} {ta tb : Tok} {wh : Bool} {rd : List (Str × Tok)} {vs : List Value} {pls : PL} : (T, tupP p ta R be tb wh) ∈ tl → (R, listOf (strValues rd).toArray c) ∈ tl → PlacesAre tl vs pls → PlacesAre tl (.ref T :: vs) ((p, cpsOf rd, be, wh) :: pls)
theorem EndsAre.mono {tl tl' : List (Addr × Obj)} {kvs : List (Str × Value)} {eb : EB} (h : EndsAre tl kvs eb) (hs : ∀ p ∈ tl, p ∈ tl') : EndsAre tl' kvs eb := by
  induction h with
  | nil => exact .nil
  | cons h1 h2 _ ih => exact .cons (hs _ h1) (hs _ h2) ih
theorem NewAre.mono {tl tl' : List (Addr × Obj)} {kvs : List (Str × Value)} {nb : List (List Nat × Nat)} (h : NewAre tl kvs nb) (hs : ∀ p ∈ tl, p ∈ tl') : NewAre tl' kvs nb := by
  induction h with
  | nil => exact .nil
  | cons h1 _ ih => exact .cons (hs _ h1) ih
theorem PlacesAre.mono {tl tl' : List (Addr × Obj)} {vs : List Value} {pls : PL} (h : PlacesAre tl vs pls) (hs : ∀ p ∈ tl, p ∈ tl') : PlacesAre tl' vs pls := by
  induction h with
  | nil => exact .nil
  | cons h1 h2 _ ih => exact .cons (hs _ h1) (hs _ h2) ih
theorem EndsAre.append {tl : List (Addr × Obj)} {a b : List (Str × Value)} {ea eb : EB} (h : EndsAre tl a ea) (h' : EndsAre tl b eb) : EndsAre tl (a ++ b) (ea ++ eb) := by
  induction h with
  | nil => exact h'
  | cons h1 h2 _ ih => exact .cons h1 h2 ih
theorem NewAre.append {tl : List (Addr × Obj)} {a b : List (Str × Value)} {na nb : List (List Nat × Nat)} (h : NewAre tl a na) (h' : NewAre tl b nb) : NewAre tl (a ++ b) (na ++ nb) := by
  induction h with
  | nil => exact h'
  | cons h1 _ ih => exact .cons h1 ih
theorem PlacesAre.append {tl : List (Addr × Obj)} {a b : List Value} {pa pb : PL} (h : PlacesAre tl a pa) (h' : PlacesAre tl b pb) : PlacesAre tl (a ++ b) (pa ++ pb) := by
  induction h with
  | nil => exact h'
  | cons h1 h2 _ ih => exact .cons h1 h2 ih
theorem EndsAre.length {tl : List (Addr × Obj)} {kvs : List (Str × Value)} {eb : EB} (h : EndsAre tl kvs eb) : kvs.length = eb.length := by
  induction h with
  | nil => rfl
  | cons _ _ _ ih => simp [ih]
theorem NewAre.length {tl : List (Addr × Obj)} {kvs : List (Str × Value)} {nb : List (List Nat × Nat)} (h : NewAre tl kvs nb) : kvs.length = nb.length := by
  induction h with
  | nil => rfl
  | cons _ _ ih => simp [ih]
theorem PlacesAre.length {tl : List (Addr × Obj)} {vs : List Value} {pls : PL} (h : PlacesAre tl vs pls) : vs.length = pls.length := by
  induction h with
  | nil => rfl
  | cons _ _ _ ih => simp [ih]
theorem PlacesAre.get {tl : List (Addr × Obj)} {vs : List Value} {pls : PL} (h : PlacesAre tl vs pls) {i : Nat} {v : Value} (hv : vs[i]? = some v) :
    ∃ T R p be c ta tb wh rd, v = .ref T ∧ (T, tupP p ta R be tb wh) ∈ tl ∧ (R, listOf (strValues rd).toArray c) ∈ tl ∧ (p, cpsOf rd, be, wh) ∈ pls := by
  induction h generalizing i with
  | nil => simp at hv
  | @cons T R p be c ta tb wh rd vs pls h1 h2 _ ih =>
    cases i with
    | zero => simp at hv; subst hv; exact ⟨T, R, p, be, c, ta, tb, wh, rd, rfl, h1, h2, .head _⟩
    | succ i =>
      obtain ⟨T, R, p, be, c, ta, tb, wh, rd, a1, a2, a3, a4⟩ := ih (by simpa using hv)
      exact ⟨T, R, p, be, c, ta, tb, wh, rd, a1, a2, a3, .tail _ a4⟩
theorem sOf_eq {a b : List Nat} : sOf a = sOf b ↔ a = b := ⟨sOf_inj, fun h => h ▸ rfl⟩
/-- what the dict of ends holds at a key -/
theorem EndsAre.look {tl : List (Addr × Obj)} {kvs : List (Str × Value)} {eb : EB} (h : EndsAre tl kvs eb) (k : List Nat) :
    (valueAt kvs (sOf k) = none ∧ Mine.look eb k = none) ∨ ∃ T R p c tp rest, valueAt kvs (sOf k) = some (.ref T) ∧ Mine.look eb k = some (p, cpsOf rest) ∧ (T, tupE p tp R) ∈ tl ∧ (R, listOf (strValues rest).toArray c) ∈ tl := by
  induction h with
  | nil => exact .inl ⟨rfl, rfl⟩
  | @cons T R p c tp k' rest kvs eb h1 h2 _ ih =>
    by_cases e : k' = k
    · subst e; exact .inr ⟨T, R, p, c, tp, rest, by simp [valueAt], by simp [Mine.look], h1, h2⟩
    · have e' : ¬ sOf k' = sOf k := fun q => e (sOf_inj q)
      simp only [valueAt, Mine.look, List.find?_cons, e, e', decide_false] at ih ⊢
      exact ih
theorem valueAt_app_some {α : Type} [DecidableEq α] {a b : List (α × Value)} {k : α} {v : Value} (h : valueAt a k = some v) : valueAt (a ++ b) k = some v := by
  unfold valueAt at h ⊢
  rw [List.find?_append]
  obtain ⟨y, hy, e⟩ := Option.map_eq_some_iff.mp h
  rw [hy]; simpa using e
theorem valueAt_app_none {α : Type} [DecidableEq α] {a b : List (α × Value)} {k : α} (h : valueAt a k = none) : valueAt (a ++ b) k = valueAt b k := by
  unfold valueAt at h ⊢
  rw [List.find?_append]
  rw [Option.map_eq_none_iff] at h
  rw [h]; simp
theorem NewAre.none {tl : List (Addr × Obj)} {kvs : List (Str × Value)} {nb : List (List Nat × Nat)} (h : NewAre tl kvs nb) {k : List Nat} (hk : ∀ e ∈ nb, e.1 ≠ k) : valueAt kvs (sOf k) = none := by
  induction h with
  | nil => rfl
  | @cons T p tp k' kvs nb h1 _ ih =>
    have e' : ¬ sOf k' = sOf k := fun q => hk (k', p) (.head _) (sOf_inj q)
    have := ih fun e he => hk e (.tail _ he)
    simp only [valueAt, List.find?_cons, e', decide_false] at this ⊢
    exact this
/-- the octets of a pointer -/
theorem byteArr_ptr {p : Nat} (h : p < 16384) : byteArr [192 + ((p : Int)).fdiv 256, ((p : Int)).fmod 256] = [hi p, lo p].toArray := by
  unfold byteArr hi lo
  have e1 : ((p : Int)).fdiv 256 = ((p / 256 : Nat) : Int) := by rw [Int.fdiv_eq_ediv_of_nonneg _ (by decide)]; rfl
  have e2 : ((p : Int)).fmod 256 = ((p % 256 : Nat) : Int) := by rw [Int.fmod_eq_emod_of_nonneg _ (by decide)]; rfl
  rw [e1, e2]
  have e3 : ((192 : Int) + ((p / 256 : Nat) : Int)).toNat = 192 + p / 256 := by omega
  simp only [List.map_cons, List.map_nil, e3, Int.toNat_natCast]
theorem byteArr_one {n : Nat} : byteArr [((n : Nat) : Int)] = [n.toUInt8].toArray := by
  unfold byteArr; simp
section
variable {prog : Program} {w : World} {A : Around} {E : Value → Shared → Prop} {s : Shared} {h₀ : Heap} {L : Addr} {m : Str → Option Value} {news : List (Addr × Obj)} {env : Env}
theorem assign_two {x0 x1 : Str} {p0 p1 pos : Pos} {k : Nat} {T : Addr} {v0 v1 : Value} {Q : Unit → Shared → Prop} (hh : A.handled = none) (hEL : env.locals = L) (hx0 : env.kindOf x0 = some .local) (hx1 : env.kindOf x1 = some .local)
    (hp : (env.scope.kind == .class || (env.scope.kind == .module && env.locals != env.globals)) = false) (F : Fr h₀ L s.heap m) (N : News h₀ L s.heap news) (ht : (T, ({ cls := .type "tuple", data := .seq #[v0, v1] } : Obj)) ∈ news)
    (h : ∀ h' tk, Fr h₀ L h' (fun y => if y = x1 then some v1 else if y = x0 then some v0 else m y) → News h₀ L h' news → Q () { s with heap := h', toks := tk }) :
    wpAny (model prog w) A (assign (.Tuple [.Name x0 p0, .Name x1 p1] k pos) env (.ref T)) Q E s := by
  subst hEL
  have htt : s.heap.IsTuple T #[v0, v1] := ⟨_, (N _ ht).1, rfl, _, rfl⟩
  refine wpAny_assign_Tuple hh htt rfl rfl fun h₃ hx₃ => ?_
  replace hx₃ : Heap.ExtBut s.heap.objs.size s.heap h₃ := hx₃
  have up₃ : ∀ b o, s.heap.get? b = some o → h₃.get? b = some o := fun b o x => hx₃ b o (Nat.ne_of_lt (Heap.lt_size x)) x
  have F₃ : Fr h₀ env.locals h₃ m := F.keeps up₃
  have N₃ : News h₀ env.locals h₃ news := N.grown up₃
  show wpAny _ A (do holding [v1] (assign (.Name x0 p0) env v0); do holding [] (assign (.Name x1 p1) env v1); pure ()) _ _ _
  refine wpAny_bind (wpAny_holding (wpAny_assign_Name (wpAny_storeName_local hx0 F₃.ns (fun h₄ hn₄ hs₄ => ?_) hp)))
  replace hs₄ : Heap.SameBut env.locals h₃ h₄ := hs₄
  have F₄ := F₃.set hn₄ hs₄
  refine wpAny_bind (wpAny_holding (wpAny_assign_Name (wpAny_storeName_local hx1 F₄.ns (fun h₅ hn₅ hs₅ => wpAny_pure ?_) hp)))
  replace hs₅ : Heap.SameBut env.locals h₄ h₅ := hs₅
  exact h h₅ _ (F₄.set hn₅ hs₅) ((N₃.set hs₄).set hs₅)
theorem assign_four {x0 x1 x2 x3 : Str} {p0 p1 p2 p3 pos : Pos} {k : Nat} {T : Addr} {v0 v1 v2 v3 : Value} {Q : Unit → Shared → Prop} (hh : A.handled = none) (hEL : env.locals = L) (hx0 : env.kindOf x0 = some .local) (hx1 : env.kindOf x1 = some .local) (hx2 : env.kindOf x2 = some .local) (hx3 : env.kindOf x3 = some .local)
    (hp : (env.scope.kind == .class || (env.scope.kind == .module && env.locals != env.globals)) = false) (F : Fr h₀ L s.heap m) (N : News h₀ L s.heap news) (ht : (T, ({ cls := .type "tuple", data := .seq #[v0, v1, v2, v3] } : Obj)) ∈ news)
    (h : ∀ h' tk, Fr h₀ L h' (fun y => if y = x3 then some v3 else if y = x2 then some v2 else if y = x1 then some v1 else if y = x0 then some v0 else m y) → News h₀ L h' news → Q () { s with heap := h', toks := tk }) :
    wpAny (model prog w) A (assign (.Tuple [.Name x0 p0, .Name x1 p1, .Name x2 p2, .Name x3 p3] k pos) env (.ref T)) Q E s := by
  subst hEL
  have htt : s.heap.IsTuple T #[v0, v1, v2, v3] := ⟨_, (N _ ht).1, rfl, _, rfl⟩
  refine wpAny_assign_Tuple hh htt rfl rfl fun h₃ hx₃ => ?_
  replace hx₃ : Heap.ExtBut s.heap.objs.size s.heap h₃ := hx₃
  have up₃ : ∀ b o, s.heap.get? b = some o → h₃.get? b = some o := fun b o x => hx₃ b o (Nat.ne_of_lt (Heap.lt_size x)) x
  have F₃ : Fr h₀ env.locals h₃ m := F.keeps up₃
  have N₃ : News h₀ env.locals h₃ news := N.grown up₃
  show wpAny _ A (do holding [v1, v2, v3] (assign (.Name x0 p0) env v0); do holding [v2, v3] (assign (.Name x1 p1) env v1); do holding [v3] (assign (.Name x2 p2) env v2); do holding [] (assign (.Name x3 p3) env v3); pure ()) _ _ _
  refine wpAny_bind (wpAny_holding (wpAny_assign_Name (wpAny_storeName_local hx0 F₃.ns (fun h₄ hn₄ hs₄ => ?_) hp)))
  replace hs₄ : Heap.SameBut env.locals h₃ h₄ := hs₄
  have F₄ := F₃.set hn₄ hs₄
  refine wpAny_bind (wpAny_holding (wpAny_assign_Name (wpAny_storeName_local hx1 F₄.ns (fun h₅ hn₅ hs₅ => ?_) hp)))
  replace hs₅ : Heap.SameBut env.locals h₄ h₅ := hs₅
  have F₅ := F₄.set hn₅ hs₅
  refine wpAny_bind (wpAny_holding (wpAny_assign_Name (wpAny_storeName_local hx2 F₅.ns (fun h₆ hn₆ hs₆ => ?_) hp)))
  replace hs₆ : Heap.SameBut env.locals h₅ h₆ := hs₆
  have F₆ := F₅.set hn₆ hs₆
  refine wpAny_bind (wpAny_holding (wpAny_assign_Name (wpAny_storeName_local hx3 F₆.ns (fun h₇ hn₇ hs₇ => wpAny_pure ?_) hp)))
  replace hs₇ : Heap.SameBut env.locals h₆ h₇ := hs₇
  exact h h₇ _ (F₆.set hn₇ hs₇) ((((N₃.set hs₄).set hs₅).set hs₆).set hs₇)
end
def PlOk (buf : List UInt8) (pls : PL) : Prop := ∀ e ∈ pls, Rd buf e.1 e.1 e.2.1 e.2.2.1 ∧ sumL e.2.1 ≤ 220 ∧ (∀ l ∈ e.2.1, LabOk l) ∧ e.1 < 16384 ∧ (e.2.2.2 = true → Inl buf e.1 e.2.1 ∧ e.2.2.1 = e.1 + sumL e.2.1 + 1 ∧ e.2.2.1 ≤ buf.length)
/-- what holds of the law's things between two names -/
inductive OutK (w : World) (st sc ce de dp pl I : Addr) (oce : Obj) (tl0 : List (Addr × Obj)) (i : Nat) (m : Str → Option Value) (news : List (Addr × Obj)) : Prop
  | mk (buf : List UInt8) (eb : EB) (pls : PL) (kvE : List (Str × Value)) (odE : Obj) (kvP : List (List UInt8 × Value)) (odP : Obj) (lp : List Value) (cp : Nat) (i' x' : Int) (ti tx t1 : Tok) (tl : List (Addr × Obj)) (f1 : m (Str.ofString "buf") = some (.bytes (List.toArray buf) t1)) (f2 : m (Str.ofString "ptrs") = some (.ref dp)) (f3 : m (Str.ofString "places") = some (.ref pl)) (f4 : m (Str.ofString "state") = some (.ref st)) (f5 : news = (de, odE) :: (dp, odP) :: (pl, listOf lp.toArray cp) :: (st, stObj sc i' ti x' tx) :: (ce, oce) :: tl) (f6 : odE.IsDictOf (PySem.strKind PR w) kvE) (f7 : EndsAre tl kvE eb) (f8 : odP.IsDictOf (bytesKind PR w) kvP) (f9 : PtrsAre kvP (tbOf (ksOf eb))) (f10 : PlacesAre tl lp pls) (f11 : Good buf eb) (f12 : PlOk buf pls) (f13 : pls.length = i) (f14 : eb.length ≤ 4 * i) (f15 : buf.length ≤ 14004 + 221 * i) (f16 : 0 ≤ i') (f17 : 0 ≤ x') (f18 : x' < 2147483647) (f19 : (∀ p ∈ tl0, p ∈ tl)) (f20 : ∀ p ∈ tl, p.1 ≠ de ∧ p.1 ≠ dp ∧ p.1 ≠ pl ∧ p.1 ≠ st ∧ p.1 ≠ ce ∧ p.1 ≠ I) : OutK w st sc ce de dp pl I oce tl0 i m news
inductive OutQ (w : World) (s : Shared) (g : Heap) (L st sc ce de dp pl : Addr) (oce : Obj) (f : Flow) (s' : Shared) : Prop
  | mk (f1 : f = .next) (n : Nat) (f2 : 1 ≤ n) (f3 : n ≤ 6) (h : Heap) (tk : Nat) (m : Str → Option Value) (news tl0 : List (Addr × Obj)) (I : Addr) (f4 : s' = { s with heap := h, toks := tk }) (f5 : Fr g L h m) (f6 : News g L h news) (f7 : OutK w st sc ce de dp pl I oce tl0 n m news) : OutQ w s g L st sc ce de dp pl oce f s'
theorem dict_empty {prog : Program} {w : World} {K K' : Type} [DecidableEq K] [DecidableEq K'] {k1 : KeyKind prog w K} {k2 : KeyKind prog w K'} {o : Obj} (h : o.IsDictOf k1 []) : o.IsDictOf k2 [] := by
  obtain ⟨es, ep, h1, h2, h3, h4, h5⟩ := h
  have he : es.toList = [] := by
    cases hq : es.toList with
    | nil => rfl
    | cons a b => rw [hq] at h4; nomatch h4
  have he2 : es = #[] := by rw [← Array.toArray_toList (xs := es), he]
  subst he2
  exact ⟨#[], ep, h1, h2, fun e he => by simp at he, .nil, by simp⟩
theorem newsName5 {g h : Heap} {L a b c d e x y : Addr} {o1 o2 o3 o4 o5 o6 o7 : Obj} (N : News g L h [(a, o1), (b, o2), (c, o3), (d, o4), (e, o5), (x, o6), (y, o7)]) : ∃ b' c' d' x' o3' o4' o7', b' = b ∧ c' = c ∧ d' = d ∧ x' = x ∧ o3' = o3 ∧ o4' = o4 ∧ o7' = o7 := ⟨_, _, _, _, _, _, _, rfl, rfl, rfl, rfl, rfl, rfl, rfl⟩
theorem isListName {h : Heap} {a : Addr} {vs : List Value} (x : h.IsList a vs.toArray) : ∃ a' vs', a' = a ∧ vs' = vs := ⟨a, vs, rfl, rfl⟩
theorem nlName {g h : Heap} {L f : Addr} {nl : NL} {c : Nat} {r : List (Addr × Obj)} (N : News g L h ((f, listOf (refsOf nl).toArray c) :: tailOf nl ++ r)) : ∃ f' nl' c', f' = f ∧ nl' = nl ∧ c' = c := ⟨f, nl, c, rfl, rfl, rfl⟩
theorem refs_at {nl : NL} {i : Nat} {v : Value} (h : (refsOf nl).toArray[i]? = some v) : ∃ e ∈ nl, v = .ref e.1 := by
  simp only [refsOf, List.getElem?_toArray, List.getElem?_map, Option.map_eq_some_iff] at h
  obtain ⟨e, h1, rfl⟩ := h
  exact ⟨e, List.mem_of_getElem? h1, rfl⟩
theorem good_nil {buf : List UInt8} : Good buf [] := ⟨(fun _ h => nomatch h), (fun _ h => nomatch h)⟩
theorem sum_le {ls : List Lab} (h : ls.length ≤ 4) (hl : ∀ l ∈ ls, LabOk l) : sumL ls ≤ 220 := by
  have key : ∀ ls : List Lab, (∀ l ∈ ls, LabOk l) → sumL ls ≤ 55 * ls.length := by
    intro ls
    induction ls with
    | nil => intro _; simp [sumL]
    | cons l r ih =>
      intro h
      have h1 := ih fun x hx => h x (.tail _ hx)
      have h2 := (h l (.head _)).2.2
      rw [sumL_cons, List.length_cons]; omega
  have := key ls hl
  omega
theorem join_len {ls : List Lab} (h : sumL ls ≤ 220) : (joinL [46] ls).length ≤ 1000 := by
  by_cases hn : ls = []
  · subst hn; simp [joinL]
  · have := sumL_key hn
    unfold keyS at this
    rw [List.length_map] at this; omega
theorem tb_small {buf : List UInt8} {eb : EB} (G : Good buf eb) : ∀ e ∈ tbOf (ksOf eb), e.2 < 16384 := by
  intro e he
  simp only [tbOf, ksOf, List.map_map, List.mem_map] at he
  obtain ⟨x, hx, rfl⟩ := he
  exact (G.rd x hx).2.2.2.2.1
theorem sum_bOf {ls : List Lab} (h : sumL ls ≤ 220) : ((ls.map bOf).map fun l => l.length + 1).sum ≤ 900 := by
  have e : ((ls.map bOf).map fun l => l.length + 1) = ls.map fun l => l.length + 1 := by rw [List.map_map]; exact List.map_congr_left fun l _ => by simp [bOf]
  rw [e]; show sumL ls ≤ 900; omega
theorem len_bOf {ls : List Lab} (h : ∀ l ∈ ls, LabOk l) : ∀ l ∈ ls.map bOf, l.length ≤ 63 := by
  intro l hl
  obtain ⟨x, hx, rfl⟩ := List.mem_map.mp hl
  have := (h x hx).2.2
  simp [bOf]; omega
theorem split_bOf {ls : List Lab} (h : ∀ l ∈ ls, LabOk l) : (joinL [46] ls = [] ∧ ls.map bOf = []) ∨ (joinL [46] ls ≠ [] ∧ ls.map bOf = splitB (bOf (joinL [46] ls))) := by
  cases ls with
  | nil => exact .inl ⟨rfl, rfl⟩
  | cons l r =>
    refine .inr ⟨fun q => ?_, ?_⟩
    · have h1 := (h l (.head _)).2.1
      cases r with
      | nil => simp [joinL] at q; rw [q] at h1; simp at h1
      | cons x r => simp [joinL] at q
    · rw [← joinL_bOf, splitB_join _ (by simp)]
      intro x hx hm
      obtain ⟨y, hy, rfl⟩ := List.mem_map.mp hx
      obtain ⟨c, hc, he⟩ := List.mem_map.mp hm
      have h1 := List.all_eq_true.mp (h y hy).1 c hc
      have h2 := okCp_lt h1
      have h3 := congrArg UInt8.toNat he
      rw [u8 (by omega)] at h3
      exact okCp_dot h1 h3
theorem keys_small {buf : List UInt8} {eb : EB} (G : Good buf eb) : ∀ e ∈ ksOf eb, ∀ c ∈ e.1, c < 128 := by
  intro e he
  obtain ⟨x, hx, rfl⟩ := List.mem_map.mp he
  obtain ⟨_, h1, _, h2, _⟩ := G.rd x hx
  dsimp only
  rw [h1]; exact keyS_lt h2
theorem pack_sim0 {buf : List UInt8} {eb : EB} (G : Good buf eb) {ls : List Lab} (h : ∀ l ∈ ls, LabOk l) : packL buf.length (ls.map bOf ++ [[]]) (tbOf (ksOf eb)) [] = (walkX eb ls, tbOf (ksOf eb ++ ksOf (walkEB eb buf.length ls))) := by
  have := pack_sim buf.length eb (keys_small G) ls [] [] [] h (fun _ h => nomatch h) (fun _ h => nomatch h) (fun e he => (G.rd e he).2.2.2.2.1)
  rw [walkName_eq] at this
  simpa using this
end Mine
end
section
open PySem PySem.W PyProof.Rows PyProof.Rows.LCg
set_option maxRecDepth 100000
namespace Mine
set_option linter.unusedVariables false
section
variable {prog : Program} {w : World} {A : Around} {E : Value → Shared → Prop} {s : Shared} {a : Addr} {t : Tok}
theorem call_joinS {l : List (Str × Tok)} {Q : Value → Shared → Prop} (hl : s.heap.IsList a (strValues l).toArray) (hz : sumL (cpsOf l) ≤ 100000) (h : ∀ t' k, Q (.str (sOf (joinL [46] (cpsOf l))) t') { s with toks := k }) :
    wpAny (model prog w) A (call (.builtin "str.join") [.str (Str.ofString ".") t, .ref a]) Q E s := by
  have h1 : ((l.map (·.1)).map (·.length)).sum + l.length = sumL (cpsOf l) := by
    clear hz hl h
    induction l with
    | nil => rfl
    | cons p r ih =>
      simp only [List.map_cons, List.sum_cons, List.length_cons, cpsOf, sumL] at ih ⊢
      have : p.1.length = p.1.cps.toList.length := by simp [Str.length]
      omega
  refine SC.join hl rfl (joinOk_of ?_) fun t9 k9 => ?_
  · have e : (Str.ofString ".").length = 1 := by decide +kernel
    rw [e, List.length_map]; omega
  · rw [join_eq]
    have e : (Str.ofString ".").cps.toList = [46] := by decide +kernel
    rw [e, List.map_map]
    exact h _ _
theorem call_upS {x : List Nat} {Q : Value → Shared → Prop} (hx : ∀ c ∈ x, c < 128) (hz : x.length ≤ 100000) (h : ∀ t' k, Q (.str (sOf (x.map up1)) t') { s with toks := k }) :
    wpAny (model prog w) A (call (.builtin "str.upper") [.str (sOf x) t]) Q E s := by
  refine SCL.upper (by rw [sOf_len]; omega) fun _ => ?_
  rw [upper_ascii (by simpa [sOf] using hx)]
  have e : (⟨(sOf x).cps.map up1⟩ : Str) = sOf (x.map up1) := by simp [sOf]
  rw [e]; exact h _ _
end
end Mine
end
section
open PySem PySem.W PyProof.Rows PyProof.Rows.LCg
set_option maxRecDepth 100000
namespace Mine
set_option linter.unusedVariables false
/-- the names of law that its inner loops leave as they are -/
def Names9 (m : Str → Option Value) (due : List UInt8) (td : Tok) (R ea : Addr) (wh : Bool) (vb vt vp vl vs : Value) : Prop :=
  m (Str.ofString "due") = some (.bytes (List.toArray due) td) ∧ m (Str.ofString "read") = some (.ref R) ∧ m (Str.ofString "is_whole") = some (.bool wh) ∧ m (Str.ofString "labels") = some (.ref ea) ∧ m (Str.ofString "buf") = some vb ∧ m (Str.ofString "told") = some vt ∧
    m (Str.ofString "ptrs") = some vp ∧ m (Str.ofString "places") = some vl ∧ m (Str.ofString "state") = some vs
theorem Names9.nest {m : Str → Option Value} {due : List UInt8} {td : Tok} {R ea : Addr} {wh : Bool} {vb vt vp vl vs : Value} (h : Names9 m due td R ea wh vb vt vp vl vs) :
    m = fun y => if y = Str.ofString "due" then some (.bytes (List.toArray due) td) else if y = Str.ofString "read" then some (.ref R) else if y = Str.ofString "is_whole" then some (.bool wh) else if y = Str.ofString "labels" then some (.ref ea) else if y = Str.ofString "buf" then some vb else
      if y = Str.ofString "told" then some vt else if y = Str.ofString "ptrs" then some vp else if y = Str.ofString "places" then some vl else if y = Str.ofString "state" then some vs else m y := by
  obtain ⟨h1, h2, h3, h4, h5, h6, h7, h8, h9⟩ := h
  funext y
  repeat' split
  all_goals first | rfl | (subst y; assumption)
def Off (tl : List (Addr × Obj)) (a : Addr) : Prop := ∀ p ∈ tl, p.1 ≠ a
/-- what a turn of law's first inner loop finds -/
inductive In1 (w : World) (lsS : List (Str × Tok)) (ea de dp pl st ce I I1 : Addr) (oP oL oS oC oI : Obj) (buf : List UInt8) (eb : EB) (kvE : List (Str × Value)) (tl0 : List (Addr × Obj)) (vb vt vp vl vs : Value) (i : Nat) (m : Str → Option Value) (news : List (Addr × Obj)) : Prop
  | mk (rd : List (Str × Tok)) (R : Addr) (c : Nat) (kn : List (Str × Value)) (odE : Obj) (td : Tok) (tl : List (Addr × Obj)) (f1 : Names9 m ((((cpsOf lsS).take i).map encL).flatten) td R ea false vb vt vp vl vs) (f2 : news = (R, listOf (strValues rd).toArray c) :: (de, odE) :: (dp, oP) :: (pl, oL) :: (st, oS) :: (ce, oC) :: (I, oI) :: tl) (f3 : odE.IsDictOf (PySem.strKind PR w) (kvE ++ kn)) (f4 : NewAre tl kn (ksOf ((walkEB eb buf.length (cpsOf lsS)).take i))) (f5 : i ≤ (walkEB eb buf.length (cpsOf lsS)).length) (f6 : cpsOf rd = (cpsOf lsS).take i) (f7 : (∀ p ∈ tl0, p ∈ tl)) (f8 : Off tl de) (f9 : Off tl dp) (f10 : Off tl pl) (f11 : Off tl st) (f12 : Off tl ce) (f13 : Off tl I) (f14 : Off tl I1) (f15 : Off tl R) (f16 : (@Ne Nat R I1)) (f17 : (@Ne Nat R de)) (f18 : (@Ne Nat R dp)) (f19 : (@Ne Nat R pl)) (f20 : (@Ne Nat R st)) (f21 : (@Ne Nat R I)) (f22 : (@Ne Nat R ce)) : In1 w lsS ea de dp pl st ce I I1 oP oL oS oC oI buf eb kvE tl0 vb vt vp vl vs i m news
/-- what the first inner loop leaves -/
inductive In1Q (w : World) (s : Shared) (g : Heap) (L : Addr) (lsS : List (Str × Tok)) (ea de dp pl st ce I : Addr) (oP oL oS oC oI : Obj) (buf : List UInt8) (eb : EB) (kvE : List (Str × Value)) (tl0 : List (Addr × Obj)) (vb vt vp vl vs : Value) (f : Flow) (s' : Shared) : Prop
  | mk (f1 : f = .next) (h : Heap) (tk : Nat) (m : Str → Option Value) (rd : List (Str × Tok)) (R : Addr) (c : Nat) (kn : List (Str × Value)) (odE : Obj) (td : Tok) (tl : List (Addr × Obj)) (f2 : s' = { s with heap := h, toks := tk }) (f3 : Fr g L h m) (f4 : News g L h ((R, listOf (strValues rd).toArray c) :: (de, odE) :: (dp, oP) :: (pl, oL) :: (st, oS) :: (ce, oC) :: (I, oI) :: tl)) (f5 : Names9 m (walkX eb (cpsOf lsS)) td R ea (walkW eb (cpsOf lsS)) vb vt vp vl vs) (f6 : odE.IsDictOf (PySem.strKind PR w) (kvE ++ kn)) (f7 : NewAre tl kn (ksOf (walkEB eb buf.length (cpsOf lsS)))) (f8 : cpsOf rd = walkT eb (cpsOf lsS)) (f9 : (∀ p ∈ tl0, p ∈ tl)) (f10 : Off tl de) (f11 : Off tl dp) (f12 : Off tl pl) (f13 : Off tl st) (f14 : Off tl ce) (f15 : Off tl I) (f16 : Off tl R) (f17 : (@Ne Nat R de)) (f18 : (@Ne Nat R dp)) (f19 : (@Ne Nat R pl)) (f20 : (@Ne Nat R st)) (f21 : (@Ne Nat R I)) (f22 : (@Ne Nat R ce)) : In1Q w s g L lsS ea de dp pl st ce I oP oL oS oC oI buf eb kvE tl0 vb vt vp vl vs f s'
theorem secondName {g h : Heap} {L a b : Addr} {o o1 : Obj} {r : List (Addr × Obj)} (N : News g L h ((a, o) :: (b, o1) :: r)) : ∃ b', b' = b := ⟨b, rfl⟩
theorem off_allLt {d : Addr} {tl : List (Addr × Obj)} (h : ∀ p ∈ tl, p.1 < d) : Off tl d := fun p hp => Nat.ne_of_lt (h p hp)
theorem allLt_mem {d : Addr} : ∀ {tl : List (Addr × Obj)}, AllLt d tl → ∀ p ∈ tl, p.1 < d
  | [], _, p, hp => nomatch hp
  | q :: r, h, p, hp => by
    rcases List.mem_cons.mp hp with rfl | hp
    · exact h.1
    · exact allLt_mem h.2 p hp
theorem kms_from0 (vs : List Value) (k : Nat) : kms_pick (List.toArray vs).toList (some (0 + ((k : Nat) : Int))) none = vs.drop k := by
  rw [show (0 : Int) + ((k : Nat) : Int) = ((k : Nat) : Int) from by omega]; exact kms_from vs k
theorem sum_drop {ls : List Lab} {k b : Nat} (h : sumL ls ≤ b) : sumL (ls.drop k) ≤ b := by
  have e : sumL ls = sumL (ls.take k) + sumL (ls.drop k) := by
    conv => lhs; rw [← List.take_append_drop k ls]
    unfold sumL; rw [List.map_append, List.sum_append]
  omega
theorem sum_take {ls : List Lab} {k b : Nat} (h : sumL ls ≤ b) : sumL (ls.take k) ≤ b := by
  have e : sumL ls = sumL (ls.take k) + sumL (ls.drop k) := by
    conv => lhs; rw [← List.take_append_drop k ls]
    unfold sumL; rw [List.map_append, List.sum_append]
  omega
theorem ptr_in {p : Nat} (h : p < 16384) : ∀ n ∈ [192 + ((p : Nat) : Int).fdiv 256, ((p : Nat) : Int).fmod 256], 0 ≤ n ∧ n < 256 := by
  have e1 : ((p : Int)).fdiv 256 = ((p / 256 : Nat) : Int) := by rw [Int.fdiv_eq_ediv_of_nonneg _ (by decide)]; rfl
  have e2 : ((p : Int)).fmod 256 = ((p % 256 : Nat) : Int) := by rw [Int.fmod_eq_emod_of_nonneg _ (by decide)]; rfl
  rw [e1, e2]
  intro n hn
  simp only [List.mem_cons, List.not_mem_nil, or_false] at hn
  rcases hn with rfl | rfl <;> omega
theorem ptr_map {p : Nat} (h : p < 16384) : ([192 + ((p : Nat) : Int).fdiv 256, ((p : Nat) : Int).fmod 256].map fun n => n.toNat.toUInt8) = [hi p, lo p] := by
  have e1 : ((p : Int)).fdiv 256 = ((p / 256 : Nat) : Int) := by rw [Int.fdiv_eq_ediv_of_nonneg _ (by decide)]; rfl
  have e2 : ((p : Int)).fmod 256 = ((p % 256 : Nat) : Int) := by rw [Int.fmod_eq_emod_of_nonneg _ (by decide)]; rfl
  rw [e1, e2]
  have e3 : ((192 : Int) + ((p / 256 : Nat) : Int)).toNat = 192 + p / 256 := by omega
  simp only [List.map_cons, List.map_nil, e3, Int.toNat_natCast, hi, lo]
end Mine
end
section
open PySem PySem.W PyProof.Rows PyProof.Rows.LCg
set_option maxRecDepth 100000
namespace Mine
set_option linter.unusedVariables false
theorem oct_callL {w : World} {mean : ExcName → Option Value} {mg mb : Str → Option Value} {dp un : Nat} {gd : Option (List Code)} {cn : Str} {cs : Scope} {a : Addr} {ccd : Value} {cl : List (Str × Addr)} {outer : List Env} {A₀ : Around} {base h₀ : Heap} {L : Addr}
    {m : Str → Option Value} {s : Shared} {Q E : Value → Shared → Prop} {st sc : Addr} {vs : List Value} {ns : List Int} {i x k : Int} {ti tx tk : Tok} {news : List (Addr × Obj)} {g : Obj → List (Addr × Obj)}
    (B : Below A₀ base outer h₀) (F : Fr h₀ L s.heap m) (X : (Mine.hd.heap_39 w.params).In h₀) (N : News h₀ L s.heap news) (T : Top VW LW mean mg mb h₀) (hk : cs.kind = .function)
    (hl : base.IsList sc vs.toArray) (hi : IntsAre vs ns) (hn : ns.length ≤ 63) (U : UpdF st (stObj sc i ti x tx) news g) (h0 : 0 ≤ i) (hx0 : 0 ≤ x) (hx1 : x < 2147483647) (hk0 : 0 ≤ k) (hk1 : k < 100)
    (hd : dp + 2 < recursionLimit) (hu : un + 16 < cLine)
    (hret : ∀ (b : List UInt8) u i' x' ti' tx' h' tk', (b.length : Int) = k → 0 ≤ i' → 0 ≤ x' → x' < 2147483647 → Fr h₀ L h' m → News h₀ L h' (g (stObj sc i' ti' x' tx')) → Q (.bytes b.toArray u) { s with heap := h', toks := tk' }) :
    wpAny (model PR w) (ktrTop dp un gd cn cs L a ccd cl outer) (call (.ref 112) [.ref st, .int k tk]) Q E s :=
  oct_call B F X N T hk hl hi hn U h0 hx0 hx1 hk0 hk1 hd hu fun b u i' x' ti' tx' h' tk' hb a1 a2 a3 F' N' => by
    have e : b = b.toList.toArray := by simp
    rw [e]
    exact hret b.toList u i' x' ti' tx' h' tk' (by simpa using hb) a1 a2 a3 F' N'
theorem addA {prog : Program} {w : World} {A : Around} {E : Value → Shared → Prop} {s : Shared} {a b : List UInt8} {t u : Tok} {Q : Value → Shared → Prop} (hz : a.length + b.length ≤ 16777216) (h : ∀ (l : List UInt8) t' k, l.length = a.length + b.length → Q (.bytes l.toArray t') { s with toks := k }) : wpAny (model prog w) A (binaryOp .Add (.bytes a.toArray t) (.bytes b.toArray u)) Q E s :=
  addL hz fun t' k => h _ t' k (by simp)
theorem menu2 : ∀ n : Nat, 0 ≤ ([0, 0, 300, 14000] : List Int).getD n 0 ∧ ([0, 0, 300, 14000] : List Int).getD n 0 ≤ 14000
  | 0 => by decide
  | 1 => by decide
  | 2 => by decide
  | 3 => by decide
  | n + 4 => by simp
theorem len_menu2 {a n : Nat} (h : a ≤ 4) : a + (([0, 0, 300, 14000] : List Int).getD n 0).toNat ≤ 14004 := by have := (menu2 n).2; omega
theorem len_menu {a n : Nat} (h : a ≤ 5) : a + (([0, 0, 300, 14000] : List Int).getD n 0).toNat ≤ 16777216 := by have := (menu2 n).2; omega
theorem len63 {ns : List Int} (h : ¬ ((63 : Nat) : Int) < ((ns.length : Nat) : Int)) : ns.length ≤ 63 := by omega
theorem label_at {l : List (Str × Tok)} {k : Nat} (hk : k < l.length) : ∃ x t, (strValues l)[(0 + (k : Int)).toNat]? = some (.str (sOf x) t) ∧ (cpsOf l)[k]? = some x ∧ l[k]? = some (sOf x, t) := by
  refine ⟨l[k].1.cps.toList, l[k].2, ?_, ?_, ?_⟩
  · rw [show (0 + (k : Int)).toNat = k from by omega, strValues, List.getElem?_map, List.getElem?_eq_getElem hk, ← eq_sOf]; rfl
  · rw [cpsOf, List.getElem?_map, List.getElem?_eq_getElem hk]; rfl
  · rw [List.getElem?_eq_getElem hk, ← eq_sOf]
theorem take_next {α : Type} {l : List α} {k : Nat} {x : α} (h : l[k]? = some x) : l.take (k + 1) = l.take k ++ [x] := by
  obtain ⟨h1, h2⟩ := List.getElem?_eq_some_iff.mp h
  rw [List.take_succ_eq_append_getElem h1, h2]
theorem k_lo (k : Nat) : (0 : Int) ≤ 0 + ((k : Nat) : Int) := by omega
theorem k_hi {k n : Nat} (h : k < n) (hn : n ≤ 4) : (0 : Int) + ((k : Nat) : Int) < 16777216 := by omega
theorem len_in {n : Nat} (h : n ≤ 54) : (0 : Int) ≤ ((n : Nat) : Int) ∧ ((n : Nat) : Int) < 256 := by omega
theorem toNat_lt {r : Int} {n : Nat} (h0 : 0 ≤ r) (h : r < ((n : Nat) : Int)) : r.toNat < n := by omega
theorem lt_big {r : Int} {n : Nat} (h : r < ((n : Nat) : Int)) (hn : n ≤ 6) : r < 16777216 := by omega
theorem be_one {be n : Nat} (h : be = n + 1) : ((be : Nat) : Int) - 1 = ((n : Nat) : Int) := by omega
theorem nat_sub {a b : Nat} (h : b ≤ a) : ((a : Nat) : Int) - ((b : Nat) : Int) = ((a - b : Nat) : Int) := (Int.ofNat_sub h).symm
theorem hf_in {n : Nat} (h : n ≤ 62) : (0 : Int) ≤ ((n : Nat) : Int) + 1 ∧ ((n : Nat) : Int) + 1 < 256 := by omega
theorem hf_lo (n : Nat) : (-1048576 : Int) ≤ ((n : Nat) : Int) + 1 := by omega
theorem hf_hi {n : Nat} (h : n ≤ 62) : ((n : Nat) : Int) + 1 ≤ 1048576 := by omega
end Mine
end
section
open PySem PySem.W PyProof.Rows PyProof.Rows.LCg
set_option maxRecDepth 100000
namespace Mine
set_option linter.unusedVariables false
theorem lenS {prog : Program} {w : World} {A : Around} {E : Value → Shared → Prop} {s : Shared} {x : List Nat} {u : Tok} {Q : Value → Shared → Prop} (hz : x.length ≤ 100000) (h : ∀ t k, Q (.int ((x.length : Nat) : Int) t) { s with toks := k }) : wpAny (model prog w) A (call (.builtin "len") [.str (sOf x) u]) Q E s :=
  PySem.P.len_str (by rw [sOf_len]; omega) (by rw [sOf_len]; exact h _ _)
theorem heapName {g h : Heap} {L : Addr} {l : List (Addr × Obj)} (N : News g L h l) : ∃ h', h' = h := ⟨h, rfl⟩
theorem tupName {g h : Heap} {L T D : Addr} {o : Obj} {n : Int} {t : Tok} {v : Value} {r : List (Addr × Obj)} (N : News g L h ((D, o) :: (T, ({ cls := .type "tuple", data := .seq #[.int n t, v] } : Obj)) :: r)) : ∃ t', t' = t := ⟨t, rfl⟩
theorem rest_sum {buf : List UInt8} {eb : EB} (G : Good buf eb) {ls rest : List Lab} {p : Nat} (hn : ls ≠ []) (h : look eb (keyS ls) = some (p, rest)) : sumL rest = sumL ls := by
  obtain ⟨_, h2, h3, _⟩ := G.rd _ (look_mem h)
  dsimp only at h2 h3
  rw [sumL_key h3, sumL_key hn, ← h2]
theorem len_sum (ls : List Lab) : ls.length ≤ sumL ls := by
  induction ls with
  | nil => exact Nat.zero_le _
  | cons l r ih => rw [sumL_cons, List.length_cons]; omega
theorem Off.cons {tl : List (Addr × Obj)} {T d : Addr} {o : Obj} (h : @LT.lt Nat _ d T) (ho : Off tl d) : Off ((T, o) :: tl) d := fun p hp => by
  rcases List.mem_cons.mp hp with rfl | hp
  · exact Nat.ne_of_gt h
  · exact ho p hp
end Mine
end
section
open PySem PySem.W PyProof.Rows PyProof.Rows.LCg
set_option maxRecDepth 100000
namespace Mine
set_option linter.unusedVariables false
/-- what a turn of law's second inner loop finds -/
inductive In2 (w : World) (lsS : List (Str × Tok)) (ea de dp pl st ce I I1 R : Addr) (oP oL oS oC oI oR : Obj) (buf : List UInt8) (eb : EB) (kvE : List (Str × Value)) (tl0 : List (Addr × Obj)) (vb vt vp vl vs : Value) (td : Tok) (i : Nat) (m : Str → Option Value) (news : List (Addr × Obj)) : Prop
  | mk (kd kr : List (Str × Value)) (odE : Obj) (tl : List (Addr × Obj)) (f1 : Names9 m (walkX eb (cpsOf lsS)) td R ea (walkW eb (cpsOf lsS)) vb vt vp vl vs) (f2 : news = (R, oR) :: (de, odE) :: (dp, oP) :: (pl, oL) :: (st, oS) :: (ce, oC) :: (I, oI) :: tl) (f3 : odE.IsDictOf (PySem.strKind PR w) (kvE ++ (kd ++ kr))) (f4 : EndsAre tl kd ((walkEB eb buf.length (cpsOf lsS)).take i)) (f5 : NewAre tl kr (ksOf ((walkEB eb buf.length (cpsOf lsS)).drop i))) (f6 : (∀ p ∈ tl0, p ∈ tl)) (f7 : Off tl de) (f8 : Off tl dp) (f9 : Off tl pl) (f10 : Off tl st) (f11 : Off tl ce) (f12 : Off tl I) (f13 : Off tl I1) (f14 : Off tl R) : In2 w lsS ea de dp pl st ce I I1 R oP oL oS oC oI oR buf eb kvE tl0 vb vt vp vl vs td i m news
/-- what the second inner loop leaves -/
inductive In2Q (w : World) (s : Shared) (g : Heap) (L : Addr) (lsS : List (Str × Tok)) (ea de dp pl st ce I R : Addr) (oP oL oS oC oI oR : Obj) (buf : List UInt8) (eb : EB) (kvE : List (Str × Value)) (tl0 : List (Addr × Obj)) (vb vt vp vl vs : Value) (td : Tok) (f : Flow) (s' : Shared) : Prop
  | mk (f1 : f = .next) (h : Heap) (tk : Nat) (m : Str → Option Value) (kd : List (Str × Value)) (odE : Obj) (tl : List (Addr × Obj)) (f2 : s' = { s with heap := h, toks := tk }) (f3 : Fr g L h m) (f4 : News g L h ((R, oR) :: (de, odE) :: (dp, oP) :: (pl, oL) :: (st, oS) :: (ce, oC) :: (I, oI) :: tl)) (f5 : Names9 m (walkX eb (cpsOf lsS)) td R ea (walkW eb (cpsOf lsS)) vb vt vp vl vs) (f6 : odE.IsDictOf (PySem.strKind PR w) (kvE ++ kd)) (f7 : EndsAre tl kd (walkEB eb buf.length (cpsOf lsS))) (f8 : (∀ p ∈ tl0, p ∈ tl)) (f9 : Off tl de) (f10 : Off tl dp) (f11 : Off tl pl) (f12 : Off tl st) (f13 : Off tl ce) (f14 : Off tl I) (f15 : Off tl R) : In2Q w s g L lsS ea de dp pl st ce I R oP oL oS oC oI oR buf eb kvE tl0 vb vt vp vl vs td f s'
theorem stored_at {kvs post : List (Str × Value)} {k : Str} {v v' : Value} (hp : ∀ e ∈ post, e.1 ≠ k) (h : valueAt kvs k = none) : stored (kvs ++ (k, v) :: post) k v' = kvs ++ (k, v') :: post := by
  unfold stored
  rw [if_pos (by simp)]
  have hn : ∀ e ∈ kvs, e.1 ≠ k := fun e he q => by
    unfold valueAt at h
    rw [Option.map_eq_none_iff, List.find?_eq_none] at h
    exact h e he (by simpa using q)
  rw [List.map_append, List.map_cons, if_pos rfl]
  congr 1
  · conv => rhs; rw [← List.map_id kvs]
    exact List.map_congr_left fun e he => by rw [if_neg (hn e he)]; rfl
  · congr 1
    conv => rhs; rw [← List.map_id post]
    exact List.map_congr_left fun e he => by rw [if_neg (hp e he)]; rfl
theorem NewAre.head {tl : List (Addr × Obj)} {kr : List (Str × Value)} {k : List Nat} {p : Nat} {nb : List (List Nat × Nat)} (h : NewAre tl kr ((k, p) :: nb)) : ∃ T tp kr', kr = (sOf k, .ref T) :: kr' ∧ (T, tupN p tp) ∈ tl ∧ NewAre tl kr' nb := by
  cases h with
  | cons h1 h2 => exact ⟨_, _, _, rfl, h1, h2⟩
theorem NewAre.nil_of {tl : List (Addr × Obj)} {kr : List (Str × Value)} (h : NewAre tl kr []) : kr = [] := by
  cases h; rfl
theorem NewAre.keys {tl : List (Addr × Obj)} {kvs : List (Str × Value)} {nb : List (List Nat × Nat)} (h : NewAre tl kvs nb) {k : List Nat} (hk : ∀ e ∈ nb, e.1 ≠ k) : ∀ e ∈ kvs, e.1 ≠ sOf k := by
  induction h with
  | nil => exact fun _ h => nomatch h
  | @cons T p tp k' kvs nb h1 _ ih =>
    intro e he
    rcases List.mem_cons.mp he with rfl | he
    · exact fun q => hk (k', p) (.head _) (sOf_inj q)
    · exact ih (fun e he => hk e (.tail _ he)) e he
theorem EndsAre.none {tl : List (Addr × Obj)} {kvs : List (Str × Value)} {eb : EB} (h : EndsAre tl kvs eb) {k : List Nat} (hk : ∀ e ∈ eb, e.1 ≠ k) : valueAt kvs (sOf k) = none := by
  rcases h.look k with ⟨h1, _⟩ | ⟨T, R, p, c, tp, rest, _, h2, _⟩
  · exact h1
  · exact absurd rfl (hk _ (look_mem h2))
section
variable {prog : Program} {w : World} {A : Around} {E : Value → Shared → Prop} {s : Shared} {h₀ : Heap} {L T : Addr} {news : List (Addr × Obj)} {a b : Value} {value slice : PySem.Expr} {u : Tok} {Q : Value → Shared → Prop}
theorem tup0 (N : News h₀ L s.heap news) (hm : (T, ({ cls := .type "tuple", data := .seq #[a, b] } : Obj)) ∈ news) (h : Q a s) (hs : subscripted slice false (.ref T) (.int 0 u) = operate [.ref T, .int 0 u] (getItem (.ref T) (.int 0 u)) := by with_unfolding_all rfl) : wpAny (model prog w) A (subscriptTail value slice (.ref T) (.int 0 u)) Q E s :=
  item_tupleT (l := [a, b]) (j := 0) (x := a) ⟨_, (N _ hm).1, rfl, _, rfl⟩ (by decide) (by decide) rfl rfl h hs
theorem tup1 (N : News h₀ L s.heap news) (hm : (T, ({ cls := .type "tuple", data := .seq #[a, b] } : Obj)) ∈ news) (h : Q b s) (hs : subscripted slice false (.ref T) (.int 1 u) = operate [.ref T, .int 1 u] (getItem (.ref T) (.int 1 u)) := by with_unfolding_all rfl) : wpAny (model prog w) A (subscriptTail value slice (.ref T) (.int 1 u)) Q E s :=
  item_tupleT (l := [a, b]) (j := 1) (x := b) ⟨_, (N _ hm).1, rfl, _, rfl⟩ (by decide) (by decide) rfl rfl h hs
end
/-- one turn on in the second loop, at a new end -/
theorem turn_new {eb : EB} {ls : List Lab} {p k : Nat} (hls : ∀ l ∈ ls, LabOk l) (hk : k < (walkEB eb p ls).length) :
    look eb (keyS (ls.drop k)) = none ∧ (∀ e ∈ (walkEB eb p ls).take k, e.1 ≠ keyS (ls.drop k)) ∧ (∀ e ∈ ksOf ((walkEB eb p ls).drop (k + 1)), e.1 ≠ keyS (ls.drop k)) ∧
    ∃ q, (walkEB eb p ls)[k]? = some (keyS (ls.drop k), q, (walkT eb ls).drop k) ∧ ksOf ((walkEB eb p ls).drop k) = (keyS (ls.drop k), q) :: ksOf ((walkEB eb p ls).drop (k + 1)) := by
  have hb := walkEB_break eb ls p
  have hkl : k < ls.length := by omega
  have hg : (walkEB eb p ls)[k]? = some ((walkEB eb p ls)[k]) := List.getElem?_eq_getElem hk
  obtain ⟨g1, g2, _⟩ := walkEB_get eb ls p k _ hg
  refine ⟨hb.2.2 k hk, ?_, ?_, ((walkEB eb p ls)[k]).2.1, ?_, ?_⟩
  · intro e he
    obtain ⟨j, hj, rfl⟩ := List.mem_iff_getElem.mp he
    have hjk : j < k := by simp at hj; omega
    rw [List.getElem_take]
    exact keys_other (p := p) (j := j) hls hkl (List.getElem?_eq_getElem (by omega)) (by omega)
  · intro e he
    unfold ksOf at he
    obtain ⟨x, hx, rfl⟩ := List.mem_map.mp he
    obtain ⟨j, hj, rfl⟩ := List.mem_iff_getElem.mp hx
    rw [List.getElem_drop]
    have hj2 : k + 1 + j < (walkEB eb p ls).length := by simp at hj; omega
    exact keys_other (p := p) (j := k + 1 + j) hls hkl (List.getElem?_eq_getElem hj2) (by omega)
  · rw [hg, ← g1, ← g2]
  · rw [drop_step hg]; unfold ksOf; rw [List.map_cons, g2]
/-- behind the break each end is an old one -/
theorem turn_old {buf : List UInt8} {eb : EB} (G : Good buf eb) {ls : List Lab} {p k : Nat} (hls : ∀ l ∈ ls, LabOk l) (hk : ¬ k < (walkEB eb p ls).length) (hkl : k < ls.length) : ∃ x, look eb (keyS (ls.drop k)) = some x := by
  have hb := walkEB_break eb ls p
  have h1 := hb.2.1 (by omega)
  cases hq : look eb (keyS (ls.drop (walkEB eb p ls).length)) with
  | none => exact absurd hq h1
  | some x =>
    obtain ⟨e, he, hk2⟩ := closed_drop G (ls.drop (walkEB eb p ls).length) (k - (walkEB eb p ls).length) (fun l hl => hls l (List.mem_of_mem_drop hl)) ⟨_, look_mem hq, rfl⟩ (by rw [List.length_drop]; omega)
    rw [List.drop_drop, show (walkEB eb p ls).length + (k - (walkEB eb p ls).length) = k from by omega] at hk2
    cases hq2 : look eb (keyS (ls.drop k)) with
    | none => exact absurd hk2 (look_none.mp hq2 e he)
    | some y => exact ⟨y, rfl⟩
end Mine
end
section
open PySem PySem.W PyProof.Rows PyProof.Rows.LCg
set_option maxRecDepth 100000
namespace Mine
set_option linter.unusedVariables false
theorem walkX_len (eb : EB) : ∀ ls : List Lab, (∀ l ∈ ls, LabOk l) → (walkX eb ls).length ≤ sumL ls + 1
  | [], _ => by simp [walkX]
  | l :: r, h => by
    rw [walkX, sumL_cons]
    have h1 := (h l (.head _)).2.1
    cases look eb (keyS (l :: r)) with
    | some x => simp; omega
    | none =>
      have ih := walkX_len eb r fun x hx => h x (.tail _ hx)
      dsimp only
      rw [List.length_append, encL_len]; omega
theorem ksOf_append (a b : EB) : ksOf (a ++ b) = ksOf a ++ ksOf b := by simp [ksOf]
theorem PlOk.snoc {buf : List UInt8} {eb : EB} (G : Good buf eb) {pls : PL} (h : PlOk buf pls) {ls : List Lab} (hls : ∀ l ∈ ls, LabOk l) (hs : sumL ls ≤ 220) (hb : buf.length < 16384) : PlOk (buf ++ walkX eb ls) (pls ++ [(buf.length, walkT eb ls, buf.length + (walkX eb ls).length, walkW eb ls)]) := by
  intro e he
  rcases List.mem_append.mp he with he | he
  · obtain ⟨h1, h2, h3, h4, h5⟩ := h e he
    refine ⟨h1.app, h2, h3, h4, fun q => ?_⟩
    obtain ⟨a1, a2, a3⟩ := h5 q
    exact ⟨a1.app, a2, by rw [List.length_append]; omega⟩
  · rw [List.mem_singleton.mp he]
    obtain ⟨k1, k2, k3⟩ := walk_key G ls hls
    have k4 := walk_sum G hls
    have hr := walk_rd G ls [] hls
    rw [List.nil_append, List.length_nil, Nat.add_zero] at hr
    refine ⟨hr, by dsimp only; omega, k3, hb, fun q => ?_⟩
    obtain ⟨a1, a2, a3⟩ := walk_whole (buf := buf) (eb := eb) ls [] hls q
    rw [List.nil_append, List.length_nil, Nat.add_zero] at a3
    dsimp only
    rw [a1]
    exact ⟨a3, by omega, by rw [List.length_append]; omega⟩
theorem tupName4 {g h : Heap} {L T : Addr} {n n' : Int} {t t' : Tok} {v v' : Value} {r : List (Addr × Obj)} (N : News g L h ((T, ({ cls := .type "tuple", data := .seq #[.int n t, v, .int n' t', v'] } : Obj)) :: r)) : ∃ a b, a = t ∧ b = t' := ⟨t, t', rfl, rfl⟩
theorem off_cons {tl : List (Addr × Obj)} {T d : Addr} {o : Obj} (h : @Ne Nat T d) (ho : Off tl d) : Off ((T, o) :: tl) d := fun p hp => by
  rcases List.mem_cons.mp hp with rfl | hp
  · exact h
  · exact ho p hp
end Mine
end
section
open PySem PySem.W PyProof.Rows PyProof.Rows.LCg PySem.Calls
set_option maxRecDepth 100000
namespace Mine
set_option linter.unusedVariables false
section
variable {prog : Program} {w : World} {A : Around} {E : Value → Shared → Prop} {s : Shared} {h₀ : Heap} {L d v : Addr} {m : Str → Option Value} {env : Env} {news : List (Addr × Obj)} {od : Obj}
variable {K : Type} [DecidableEq K] {knd : KeyKind prog w K} {kvs : List (K × Value)}
/-- what the dict of a comprehension gives -/
def DictSrc (prog : Program) (w : World) (A : Around) (h₀ : Heap) (L : Addr) (m : Str → Option Value) (env : Env) (elt : PySem.Expr) (x : Str) (scope : Scope) (cl : List (Str × Addr)) (d : Addr) (od : Obj) (knd : KeyKind prog w K) (kvs : List (K × Value)) (news : List (Addr × Obj)) (Q : Value → Shared → Prop) (xv : Value) (s₁ : Shared) : Prop :=
  xv = .ref d ∧ A.handled = none ∧ Fr h₀ L s₁.heap m ∧ News h₀ L s₁.heap news ∧ (d, od) ∈ news ∧ od.IsDictOf knd kvs ∧ (d == sysModules) = false ∧ kvs.length ≤ sizeLine ∧
      ∀ s₂ : Shared, (∃ h, s₂ = { s₁ with heap := h }) → CompRest prog w A h₀ L m env elt x scope cl s₂ (fun nw => (d, od) ∈ nw) (fun i v => ∃ k x, kvs[i]? = some (k, x) ∧ knd.is k v = true) (FinE h₀ L m s₂ Q) kvs.length 0 [] news
/-- a comprehension over a dict of the ledger -/
theorem ListComp_D {elt iter : PySem.Expr} {x : Str} {px : Pos} {scope : Scope} {cl : List (Str × Addr)} {pos : Pos} {Q : Value → Shared → Prop} {hh : Heap} (F₀ : Fr h₀ L hh m) (N₀ : News h₀ L hh news)
    (hclos : closureFor scope env = pure cl) (hcell : ∀ y ∈ scope.names, y.2 ≠ .cell) (hkind : scope.kind = .function)
    (hnames : ∀ y ∈ scope.names, y.2 = .local → scope.names.lookup y.1 = some .local) (hx : scope.names.lookup x = some .local)
    (h : wpAny (model prog w) A (eval iter env) (DictSrc prog w A h₀ L m env elt x scope cl d od knd kvs news Q) E s)
    (hs : ∀ x, foldedSetIterable iter env x = pure x := by intro _; rfl) :
    wpAny (model prog w) A (eval (.ListComp elt [⟨.Name x px, iter, [], 0⟩] scope pos) env) Q E s := by
  rw [eval_ListComp]
  refine wpAny_comprehension_free (use := none) rfl hs hclos hkind hnames (wpAny_mono h (fun xv s₁ h₁ => ?_) fun _ _ e => e)
  obtain ⟨rfl, hh, F, N, hm, hd, lo, hsz, R⟩ := h₁
  obtain ⟨ep, hat⟩ := (kda_dict N hm hd).dictAt
  refine wpAny_pyIter_dict lo hat ?_
  have hlt := hat.lt_size
  have hne : d ≠ s₁.heap.objs.size := Nat.ne_of_lt hlt
  have up : ∀ b o, s₁.heap.get? b = some o → (s₁.heap.push { cls := .type "dict_keyiterator", data := .fields #[.ref d, .int 0 0, .int kvs.length 0, .int ep 0] }).get? b = some o := fun b o e => Heap.get?_push_of_some _ e
  refine block_U (Walks.dictKeys (knd := knd) hh s₁.heap.objs.size d hne kvs ep) hsz (fun i h st => by obtain ⟨o, e, _⟩ := st.1; exact ⟨o, e⟩) (fun i h h' o nw st e e' _ N' S' => ⟨st.1.at fun o' q => by rw [e] at q; cases q; exact e', ?_⟩) hcell hkind hx ⟨⟨_, Heap.get?_push_size _ rfl, rfl, rfl⟩, hat.push _⟩ (fun b hb => ?_)
    (F.keeps up) (N.grown up) (Nat.ne_of_lt F.ns.lt) (next_is_new F) (fun p hp => Nat.ne_of_lt (Heap.lt_size (N p hp).1)) hm (R _ ⟨_, rfl⟩) ?_
  · exact hat.at' fun o q => by rw [(N _ hm).1] at q; cases q; exact (N' _ S').1
  · show b < (s₁.heap.push _).objs.size
    rw [Heap.size_push]
    rcases List.mem_cons.mp hb with rfl | hb
    · exact Nat.lt_succ_self _
    · rw [List.mem_singleton.mp hb]; exact Nat.lt_succ_of_lt hlt
  · intro D C h tk m' ys news' F' N' o1 hn hC₀ hD₀ hCL hDL hCD offC fin
    refine ⟨m', hn, fun h'' hs'' => fin D h'' tk (F'.change hs'' hCL hC₀) (fun p hp => ?_) o1⟩
    refine ⟨hs''.extBut _ _ ?_ (N' p hp).1, (N' p hp).2⟩
    rcases List.mem_cons.mp hp with rfl | hp
    · exact Ne.symm hCD
    · exact offC p hp
/-- elements that leave the ledger as it is -/
theorem rest_inv {elt : PySem.Expr} {x : Str} {scope : Scope} {cl : List (Str × Addr)} {S : List (Addr × Obj) → Prop} {P : Nat → Value → Prop} {Fin : List Value → List (Addr × Obj) → Prop} {n : Nat} (J : Nat → List Value → Prop) (hS : S news)
    (step : ∀ i ys v I oI C oC D m₂ h tk (E' : Value → Shared → Prop), i < n → J i ys → P i v → NsObj oC m₂ → m₂ x = some v → Fr h₀ L h m → News h₀ L h ((I, oI) :: (C, oC) :: (D, lst ys) :: news) →
      wpAny (model prog w) A (eval elt (compEnvC scope cl C env)) (fun y s₂ => J (i + 1) (ys ++ [y]) ∧ ∃ h' tk', s₂ = { s with heap := h', toks := tk' } ∧ Fr h₀ L h' m ∧ News h₀ L h' ((I, oI) :: (C, oC) :: (D, lst ys) :: news)) E' { s with heap := h, toks := tk })
    (fin : ∀ ys, J n ys → Fin ys news) : ∀ (k i : Nat) (ys : List Value), i + k = n → J i ys → CompRest prog w A h₀ L m env elt x scope cl s S P Fin k i ys news
  | 0, i, ys, e, hJ => .zero (fin ys (by rw [← e, Nat.add_zero]; exact hJ))
  | k + 1, i, ys, e, hJ => .succ fun v I oI C oC D m₂ h tk E' hP hC hm F N o3 ne => by
    refine wpAny_mono (step i ys v I oI C oC D m₂ h tk E' (by omega) hJ hP hC hm F N) (fun y s₂ hq => ?_) fun _ _ e => e
    obtain ⟨hJ', h', tk', rfl, F', N'⟩ := hq
    exact ⟨h', tk', news, rfl, F', N', o3, hS, rest_inv J hS step fin k (i + 1) (ys ++ [y]) (by omega) hJ'⟩
end
section
variable {prog : Program} {w : World} {A : Around} {E : Value → Shared → Prop} {s : Shared} {h₀ : Heap} {L D d v : Addr} {m : Str → Option Value} {news : List (Addr × Obj)} {vs : List Value} {ns : List Int} {n : Nat} {Q : Value → Shared → Prop} {od : Obj}
theorem sort_call (F : Fr h₀ L s.heap m) (N : News h₀ L s.heap ((D, listOf vs.toArray n) :: news)) (hne : ∀ q ∈ news, q.1 ≠ D) (hI : IntsAre vs ns) (h64 : vs.length < 64)
    (h : ∀ h' out ns' c, Fr h₀ L h' m → News h₀ L h' ((D, listOf (List.toArray out) c) :: news) → IntsAre out ns' → ns'.Perm ns → ns'.Pairwise (· ≤ ·) → Q .none { s with heap := h' }) :
    wpAny (model prog w) A (call (.builtin "list.sort") [.ref D]) Q E s := by
  have z := N (D, listOf vs.toArray n) (.head _)
  have ho : s.heap.get? D = some (seqObj "list" vs.toArray n) := z.1
  refine wpAny_call_entry PyProof.Rows.slot_list_sort ⟨_, z.1, rfl⟩ PyProof.Rows.entry_list_sort (list_sort_tree (n := n) (vs := vs) ho hI h64 fun out ns' hI' hp hP => ⟨.none, rfl, ?_⟩) (PyProof.Rows.args_list_sort _)
  have hk : ∀ b o, b ∉ [D] → s.heap.get? b = some o → (sortedHeap s.heap D vs out).get? b = some o := fun b o hb e => by
    rw [sortedHeap_old (by simpa using hb) (Heap.lt_size e)]; exact e
  obtain ⟨c, hc⟩ := sortedHeap_at (out := out) ho
  refine h _ out.toList ns' c (fr_but F hk (Ne.symm z.2.1) z.2.2) (fun p hp => ?_) hI' hp hP
  rcases List.mem_cons.mp hp with rfl | hp
  · exact ⟨by rw [Array.toArray_toList]; exact hc, z.2⟩
  · exact ⟨hk _ _ (by simpa using hne p hp) (N p (.tail _ hp)).1, (N p (.tail _ hp)).2⟩
/-- sorted over the values of a dict -/
theorem sorted_values {K : Type} [DecidableEq K] {knd : KeyKind prog w K} {kvs : List (K × Value)} (hh : A.handled = none) (F : Fr h₀ L s.heap m) (N : News h₀ L s.heap news) (hv : (v, ({ cls := .type "dict_values", data := .fields #[.ref d] } : Obj)) ∈ news) (hm : (d, od) ∈ news) (hd : od.IsDictOf knd kvs)
    (hI : IntsAre (kvs.map (·.2)) ns) (h64 : kvs.length < 64)
    (h : ∀ D h' tk out ns' c, Fr h₀ L h' m → News h₀ L h' ((D, listOf (List.toArray out) c) :: news) → (∀ q ∈ news, q.1 < D) → IntsAre out ns' → ns'.Perm ns → ns'.Pairwise (· ≤ ·) → Q (.ref D) { s with heap := h', toks := tk }) :
    wpAny (model prog w) A (call (.builtin "sorted") [.ref v]) Q E s := by
  obtain ⟨ep, hat⟩ := (kda_dict N hm hd).dictAt
  refine kdu_sorted (kdl_values (knd := knd) (kvs := kvs) (ep := ep)) hh F N ⟨⟨_, (N _ hv).1, rfl, rfl⟩, hat⟩ (kdl_size (by omega)) fun B h' tk vs F' N' l1 hl hv => ?_
  rw [kdl_vals_eq vs hl hv] at N'
  exact sort_call F' N' (fun q hq => Nat.ne_of_lt (l1 q hq)) hI (by rw [List.length_map]; exact h64) fun h'' out ns' c F2 N2 a1 a2 a3 => h B h'' tk out ns' c F2 N2 l1 a1 a2 a3
theorem ptrs_ints {kvP : List (List UInt8 × Value)} {tb : List (List UInt8 × Nat)} (h : PtrsAre kvP tb) : IntsAre (kvP.map (·.2)) (tb.map fun e => ((e.2 : Nat) : Int)) := by
  induction h with
  | nil => exact .nil
  | cons _ ih => exact .cons _ _ ih
/-- != of a pair (text, number) -/
theorem ne_pair {T1 T2 : Addr} {x : List Nat} {i : Int} {t1 t2 t3 t4 : Tok} (N : News h₀ L s.heap news) (h1 : (T1, ({ cls := .type "tuple", data := .seq #[.str (sOf x) t1, .int i t2] } : Obj)) ∈ news) (h2 : (T2, ({ cls := .type "tuple", data := .seq #[.str (sOf x) t3, .int i t4] } : Obj)) ∈ news) (hx : ∀ c ∈ x, c < 128) (hu : A.units + 64 < cLine) (h : Q (.bool false) s) :
    wpAny (model prog w) A (compareOp .NotEq (.ref T1) (.ref T2)) Q E s := by
  have hok : PyData.strOk (sOf x) = true := by
    show (sOf x).cps.all _ = true
    rw [sOf_cps, List.all_toArray]
    exact List.all_eq_true.mpr fun c hc => decide_eq_true (Nat.lt_trans (hx c hc) (by decide))
  refine ne_dataH_same (da := .tuple [.str (sOf x), .int i]) (db := .tuple [.str (sOf x), .int i]) (as := [] ++ ([] ++ [])) (bs := [] ++ ([] ++ [])) (.tuple (N _ h1).1 rfl rfl (.cons (.str _ _) (.cons (.int _ _) .nil))) (.tuple (N _ h2).1 rfl rfl (.cons (.str _ _) (.cons (.int _ _) .nil))) ?_ ?_ hu ?_ ?_
  · show (PyData.canLay0 _ && decide _) = true
    simp [PyData.canLay0, PyData.canLayAll0, PyData.depth, PyData.depthAll, hok]
  · show (PyData.canLay0 _ && decide _) = true
    simp [PyData.canLay0, PyData.canLayAll0, PyData.depth, PyData.depthAll, hok]
  · simp [PySem.SeqAt.noMix, PySem.SeqAt.noMixAll]
  · simpa [PySem.Spec.same, PySem.Spec.sameAll] using h
end
end Mine
end
section
open PySem PySem.W PyProof.Rows PyProof.Rows.LCg
set_option maxRecDepth 100000
namespace Mine
set_option linter.unusedVariables false
theorem str_key {prog : Program} {w : World} {k : Str} {v : Value} (h : (PySem.strKind prog w).is k v = true) : ∃ t, v = .str k t := Value.isStrOf_shape h
theorem dict_nodup {prog : Program} {w : World} {K : Type} [DecidableEq K] {knd : KeyKind prog w K} {o : Obj} {kvs : List (K × Value)} (h : o.IsDictOf knd kvs) : (kvs.map (·.1)).Nodup := by
  obtain ⟨es, ep, h1, h2, h3, h4, h5⟩ := h
  exact h5
theorem valueAt_get {K : Type} [DecidableEq K] {kvs : List (K × Value)} {i : Nat} {k : K} {x : Value} (hn : (kvs.map (·.1)).Nodup) (h : kvs[i]? = some (k, x)) : valueAt kvs k = some x := by
  induction kvs generalizing i with
  | nil => simp at h
  | cons e r ih =>
    rw [List.map_cons, List.nodup_cons] at hn
    cases i with
    | zero => simp at h; subst h; simp [valueAt]
    | succ i =>
      have h' : r[i]? = some (k, x) := by simpa using h
      have hne : ¬ e.1 = k := fun q => hn.1 (by rw [q]; exact List.mem_map.mpr ⟨_, List.mem_of_getElem? h', rfl⟩)
      have := ih hn.2 h'
      simp only [valueAt, List.find?_cons, hne, decide_false] at this ⊢
      exact this
theorem EndsAre.at {tl : List (Addr × Obj)} {kvs : List (Str × Value)} {eb : EB} (h : EndsAre tl kvs eb) {i : Nat} {k : Str} {x : Value} (hx : kvs[i]? = some (k, x)) : ∃ ee T R tp, eb[i]? = some ee ∧ k = sOf ee.1 ∧ x = .ref T ∧ (T, tupE ee.2.1 tp R) ∈ tl := by
  induction h generalizing i with
  | nil => simp at hx
  | @cons T R p c tp k' rest kvs eb h1 h2 _ ih =>
    cases i with
    | zero => simp at hx; exact ⟨_, T, R, tp, rfl, hx.1.symm, hx.2.symm, h1⟩
    | succ i => exact ih (by simpa using hx)
def Names4 (m : Str → Option Value) (vb vd vp vs : Value) : Prop := m (Str.ofString "buf") = some vb ∧ m (Str.ofString "ptrs") = some vd ∧ m (Str.ofString "places") = some vp ∧ m (Str.ofString "state") = some vs
/-- what the loop over the places, and the needy check, leave -/
inductive PlQ (s : Shared) (g : Heap) (L : Addr) (vb vd vp vs : Value) (news : List (Addr × Obj)) (f : Flow) (s' : Shared) : Prop
  | mk (f1 : f = .next) (h : Heap) (tk : Nat) (m : Str → Option Value) (f2 : s' = { s with heap := h, toks := tk }) (f3 : Fr g L h m) (f4 : News g L h news) (f5 : Names4 m vb vd vp vs) : PlQ s g L vb vd vp vs news f s'
theorem pl_unp {buf : List UInt8} {p be : Nat} {ls : List Lab} (h : Rd buf p p ls be) (hs : sumL ls ≤ 220) : ∃ n, Unp buf n p p 0 0 [] (.done (ls.map bOf) be) := by
  simpa using h.unp 0 0 [] (by omega)
theorem bOf_nat {l : List Nat} (h : ∀ c ∈ l, c < 128) : (bOf l).map UInt8.toNat = l := by
  unfold bOf
  rw [List.map_map]
  conv => rhs; rw [← List.map_id l]
  exact List.map_congr_left fun c hc => u8 (Nat.lt_trans (h c hc) (by decide))
theorem done_name {ls : List Lab} (h : ∀ l ∈ ls, LabOk l) : (joinL [46] (ls.map bOf)).map UInt8.toNat = joinL [46] ls := by
  rw [joinL_bOf]; exact bOf_nat (join_lt h)
theorem done_asc {ls : List Lab} (h : ∀ l ∈ ls, LabOk l) : ∀ c ∈ joinL [46] (ls.map bOf), c.toNat < 128 := by
  rw [joinL_bOf]
  intro c hc
  obtain ⟨d, hd, rfl⟩ := List.mem_map.mp hc
  have := join_lt h d hd
  rw [u8 (Nat.lt_trans this (by decide))]; exact this
end Mine
end
section
open PySem PySem.W PyProof.Rows PyProof.Rows.LCg
set_option maxRecDepth 100000
namespace Mine
set_option linter.unusedVariables false
theorem ltName {a b : Int} (h : a < b) : ∃ r, r = a := ⟨a, rfl⟩
theorem stName {g h : Heap} {L a b c d : Addr} {oa ob oc : Obj} {sc : Addr} {i x : Int} {ti tx : Tok} {r : List (Addr × Obj)} (N : News g L h ((a, oa) :: (b, ob) :: (c, oc) :: (d, stObj sc i ti x tx) :: r)) : ∃ i' x' ti' tx', i' = i ∧ x' = x ∧ ti' = ti ∧ tx' = tx := ⟨_, _, _, _, rfl, rfl, rfl, rfl⟩
theorem needy_unp {buf : List UInt8} {p : Nat} {ls : List Lab} (h : Inl buf p ls) (hs : sumL ls ≤ 220) : ∃ n, Unp (buf.take (p + sumL ls)) n p p 0 0 [] .need :=
  (h.take (Nat.le_refl _)).need p 0 0 [] (by omega) (by rw [List.length_take]; omega)
/-- what the check of the octets behind the end leaves -/
inductive HereQ (s : Shared) (g : Heap) (L st sc : Addr) (vb : Value) (n : Int) (f : Flow) (s' : Shared) : Prop
  | mk (f1 : f = .next) (h : Heap) (tk : Nat) (m : Str → Option Value) (i x : Int) (ti tx t : Tok) (f2 : s' = { s with heap := h, toks := tk }) (f3 : Fr g L h m) (f4 : News g L h [(st, stObj sc i ti x tx)]) (f5 : 0 ≤ i) (f6 : 0 ≤ x) (f7 : x < 2147483647) (f8 : m (Str.ofString "buf") = some vb) (f9 : m (Str.ofString "here") = some (.int n t)) (f10 : m (Str.ofString "state") = some (.ref st)) : HereQ s g L st sc vb n f s'
theorem rng_cons {n : Int} {l : List Int} (h0 : 0 ≤ n ∧ n < 256) (h : ∀ n ∈ l, 0 ≤ n ∧ n < 256) : ∀ m ∈ n :: l, 0 ≤ m ∧ m < 256 := fun m hm => by
  rcases List.mem_cons.mp hm with rfl | hm
  · exact h0
  · exact h m hm
theorem ptr_mapI {p : Nat} {x : Int} (h : p < 16384) (e : ((p : Nat) : Int) = x) : [(192 + x.fdiv 256).toNat.toUInt8, (x.fmod 256).toNat.toUInt8] = [hi p, lo p] := by
  subst e; exact ptr_map h
theorem ptr_inI {p : Nat} {x : Int} (h : p < 16384) (e : ((p : Nat) : Int) = x) : ∀ n ∈ [192 + x.fdiv 256, x.fmod 256], 0 ≤ n ∧ n < 256 := by
  subst e; exact ptr_in h
/-- a list of octets behind the end that is refused -/
def One (buf : List UInt8) (news : List (Addr × Obj)) (v : Value) : Prop :=
  ∃ a vs ns X, v = .ref a ∧ (a, listOf (List.toArray vs) 0) ∈ news ∧ IntsAre vs ns ∧ (∀ n ∈ ns, 0 ≤ n ∧ n < 256) ∧ vs.length ≤ 5 ∧ (ns.map fun n => n.toNat.toUInt8) = X ∧ X.length ≤ 5 ∧ ∀ z, ∃ n, Unp (buf ++ (X ++ z)) n buf.length buf.length 0 0 [] .refused
theorem around_all {g h : Heap} {L lA l0 l1 l2 l3 l4 l5 : Addr} {rest : List (Addr × Obj)} {buf : List UInt8} {rr : Int} {a0 a1 b0 b1 b2 b3 c0 c1 d0 d1 e0 e1 e2 e3 f0 f1 f2 f3 f4 : Tok}
    (N : News g L h ((lA, listOf #[.ref l0, .ref l1, .ref l2, .ref l3, .ref l4, .ref l5] 0) :: (l5, listOf #[.int 2 f0, .int 97 f1, .int 0 f2, .int (192 + (((buf.length : Nat) : Int) + 2).fdiv 256) f3, .int ((((buf.length : Nat) : Int) + 2).fmod 256) f4] 0) :: (l4, listOf #[.int 1 e0, .int 97 e1, .int 128 e2, .int 0 e3] 0) :: (l3, listOf #[.int 64 d0, .int 0 d1] 0) :: (l2, listOf #[.int (192 + (((buf.length : Nat) : Int) + 9).fdiv 256) c0, .int ((((buf.length : Nat) : Int) + 9).fmod 256) c1] 0) :: (l1, listOf #[.int 1 b0, .int 97 b1, .int (192 + ((buf.length : Nat) : Int).fdiv 256) b2, .int (((buf.length : Nat) : Int).fmod 256) b3] 0) :: (l0, listOf #[.int (192 + ((buf.length : Nat) : Int).fdiv 256) a0, .int (((buf.length : Nat) : Int).fmod 256) a1] 0) :: rest))
    (hH : buf.length + 9 < 16384) (h0 : 0 ≤ rr) (h6 : rr < 6) :
    h.IsList lA (List.toArray [.ref l0, .ref l1, .ref l2, .ref l3, .ref l4, .ref l5]) ∧ ∃ v, ([.ref l0, .ref l1, .ref l2, .ref l3, .ref l4, .ref l5] : List Value)[rr.toNat]? = some v ∧
      One buf ((lA, listOf #[.ref l0, .ref l1, .ref l2, .ref l3, .ref l4, .ref l5] 0) :: (l5, listOf #[.int 2 f0, .int 97 f1, .int 0 f2, .int (192 + (((buf.length : Nat) : Int) + 2).fdiv 256) f3, .int ((((buf.length : Nat) : Int) + 2).fmod 256) f4] 0) :: (l4, listOf #[.int 1 e0, .int 97 e1, .int 128 e2, .int 0 e3] 0) :: (l3, listOf #[.int 64 d0, .int 0 d1] 0) :: (l2, listOf #[.int (192 + (((buf.length : Nat) : Int) + 9).fdiv 256) c0, .int ((((buf.length : Nat) : Int) + 9).fmod 256) c1] 0) :: (l1, listOf #[.int 1 b0, .int 97 b1, .int (192 + ((buf.length : Nat) : Int).fdiv 256) b2, .int (((buf.length : Nat) : Int).fmod 256) b3] 0) :: (l0, listOf #[.int (192 + ((buf.length : Nat) : Int).fdiv 256) a0, .int (((buf.length : Nat) : Int).fmod 256) a1] 0) :: rest) v := by
  refine ⟨N.isList (n := 0) (.head _), ?_⟩
  have hH0 : buf.length < 16384 := Nat.lt_of_le_of_lt (Nat.le_add_right _ _) hH
  have hH2 : buf.length + 2 < 16384 := Nat.lt_of_le_of_lt (Nat.add_le_add_left (by decide) _) hH
  have r1 := ptr_in hH0
  have hz : rr = 0 ∨ rr = 1 ∨ rr = 2 ∨ rr = 3 ∨ rr = 4 ∨ rr = 5 := by clear N r1 hH hH0 hH2; omega
  rcases hz with rfl | rfl | rfl | rfl | rfl | rfl
  · exact ⟨_, rfl, _, _, _, _, rfl, .tail _ (.tail _ (.tail _ (.tail _ (.tail _ (.tail _ (.head _)))))), .cons _ _ (.cons _ _ .nil), r1, Nat.le_of_ble_eq_true rfl, ptr_map hH0, Nat.le_of_ble_eq_true rfl, fun z => around0 buf z hH0⟩
  · exact ⟨_, rfl, _, _, _, _, rfl, .tail _ (.tail _ (.tail _ (.tail _ (.tail _ (.head _))))), .cons _ _ (.cons _ _ (.cons _ _ (.cons _ _ .nil))), rng_cons (by decide) (rng_cons (by decide) r1), Nat.le_of_ble_eq_true rfl, congrArg (fun l => (1 : UInt8) :: 97 :: l) (ptr_map hH0), Nat.le_of_ble_eq_true rfl, fun z => around1 buf z hH0⟩
  · exact ⟨_, rfl, _, _, _, _, rfl, .tail _ (.tail _ (.tail _ (.tail _ (.head _)))), .cons _ _ (.cons _ _ .nil), ptr_inI hH rfl, Nat.le_of_ble_eq_true rfl, ptr_mapI hH rfl, Nat.le_of_ble_eq_true rfl, fun z => around2 buf z hH⟩
  · exact ⟨_, rfl, _, _, _, _, rfl, .tail _ (.tail _ (.tail _ (.head _))), .cons _ _ (.cons _ _ .nil), by decide, Nat.le_of_ble_eq_true rfl, rfl, Nat.le_of_ble_eq_true rfl, fun z => around3 buf z⟩
  · exact ⟨_, rfl, _, _, _, _, rfl, .tail _ (.tail _ (.head _)), .cons _ _ (.cons _ _ (.cons _ _ (.cons _ _ .nil))), by decide, Nat.le_of_ble_eq_true rfl, rfl, Nat.le_of_ble_eq_true rfl, fun z => around4 buf z⟩
  · exact ⟨_, rfl, _, _, _, _, rfl, .tail _ (.head _), .cons _ _ (.cons _ _ (.cons _ _ (.cons _ _ (.cons _ _ .nil)))), rng_cons (by decide) (rng_cons (by decide) (rng_cons (by decide) (ptr_inI hH2 rfl))), Nat.le_of_ble_eq_true rfl, congrArg (fun l => (2 : UInt8) :: 97 :: 0 :: l) (ptr_mapI hH2 rfl), Nat.le_of_ble_eq_true rfl, fun z => around5 buf z hH2⟩
end Mine
end
section
open PySem PySem.W PyProof.Rows PyProof.Rows.LCg
set_option maxRecDepth 100000
namespace Mine
set_option linter.unusedVariables false
end Mine
end
section
open PySem PySem.W PyProof.Rows PyProof.Rows.LCg
set_option maxRecDepth 100000
namespace Mine
set_option linter.unusedVariables false
def qb (n : Nat) : List UInt8 := List.replicate n 113
def qs (n : Nat) : List Nat := List.replicate n 113
/-- the lengths of the longest name's labels -/
def nsL (r : Nat) : List Nat := [42 + r, 42 + r, 42 + r, 125 - 3 * r - (125 - 3 * r) / 2 - 1, (125 - 3 * r) / 2 - 1]
def csL (r : Nat) : List (List UInt8) := (nsL r).map qb
theorem qb_len (n : Nat) : (qb n).length = n := List.length_replicate
theorem rep_q (n : Nat) : (List.replicate n [(113 : UInt8)]).flatten = qb n := by simp [qb]
theorem rep_qn (n : Nat) : (List.replicate n [(113 : Nat)]).flatten = qs n := by simp [qs]
theorem joinL_nil {α : Type} (ls : List (List α)) : joinL [] ls = ls.flatten := joinL_nil_len ls
theorem sumB_qb (l : List Nat) : sumB (l.map qb) = (l.map (· + 1)).sum := by
  unfold sumB
  rw [List.map_map]
  congr 1
  exact List.map_congr_left fun n _ => by show (qb n).length + 1 = n + 1; rw [qb_len]
/-- all that is asked of the lengths, at each size -/
theorem nsL_all : ∀ r, r < 22 → (∀ k ∈ nsL r, 1 ≤ k ∧ k ≤ 63) ∧ ((nsL r).map (· + 1)).sum = 254 ∧ (((nsL r).take 4).map (· + 1)).sum + (125 - 3 * r) / 2 = 254 ∧ 1 ≤ (125 - 3 * r) / 2 ∧ (125 - 3 * r) / 2 ≤ 62 ∧
    (254 : Int) - 3 * (42 + ((r : Nat) : Int) + 1) = ((125 - 3 * r : Nat) : Int) ∧ ((125 - 3 * r : Nat) : Int).fdiv 2 = (((125 - 3 * r) / 2 : Nat) : Int) ∧
    ((125 - 3 * r : Nat) : Int) - (((125 - 3 * r) / 2 : Nat) : Int) - 1 = ((125 - 3 * r - (125 - 3 * r) / 2 - 1 : Nat) : Int) ∧ (((125 - 3 * r) / 2 : Nat) : Int) - 1 = (((125 - 3 * r) / 2 - 1 : Nat) : Int) ∧ ((((125 - 3 * r) / 2 : Nat) : Int) + 1).toNat = (125 - 3 * r) / 2 + 1 := by decide +kernel
theorem nsL_ok {r : Nat} (h : r < 22) : ∀ k ∈ nsL r, 1 ≤ k ∧ k ≤ 63 := (nsL_all r h).1
theorem csL_sum {r : Nat} (h : r < 22) : sumB (csL r) = 254 := by
  rw [csL, sumB_qb]; exact (nsL_all r h).2.1
theorem csL_ok {r : Nat} (h : r < 22) : ∀ c ∈ csL r, 1 ≤ c.length ∧ c.length ≤ 63 := by
  intro c hc
  obtain ⟨k, hk, rfl⟩ := List.mem_map.mp hc
  rw [qb_len]; exact nsL_ok h k hk
theorem csL_bOf (r : Nat) : csL r = ((nsL r).map qs).map bOf := by
  rw [List.map_map]
  exact List.map_congr_left fun n _ => by simp [qb, qs, bOf]
theorem join_qs_lt (r : Nat) : ∀ c ∈ joinL [46] ((nsL r).map qs), c < 128 := by
  intro c hc
  rcases joinL_mem hc with hc | ⟨l, hl, hc⟩
  · rw [List.mem_singleton.mp hc]; decide
  · obtain ⟨n, _, rfl⟩ := List.mem_map.mp hl
    rw [(List.mem_replicate.mp hc).2]; decide
theorem join_csL (r : Nat) : (joinL [46] (csL r)).map UInt8.toNat = joinL [46] ((nsL r).map qs) := by
  rw [csL_bOf, joinL_bOf]; exact bOf_nat (join_qs_lt r)
theorem csL_asc (r : Nat) : ∀ c ∈ joinL [46] (csL r), c.toNat < 128 := by
  intro c hc
  refine join_qs_lt r _ ?_
  rw [← join_csL]; exact List.mem_map.mpr ⟨c, hc, rfl⟩
theorem longer_sum {r : Nat} (h : r < 22) : sumB ((csL r).take 4) + (125 - 3 * r) / 2 = 254 := by
  rw [csL, ← List.map_take, sumB_qb]; exact (nsL_all r h).2.2.1
theorem longer_sum2 {r : Nat} (h : r < 22) : sumB ((csL r).take 4) = 254 - (125 - 3 * r) / 2 := Nat.eq_sub_of_add_eq (longer_sum h)
theorem octets_cut {r : Nat} (h : r < 22) : (((csL r).map encB).flatten).take ((((csL r).map encB).flatten).length - (125 - 3 * r) / 2) = (((csL r).take 4).map encB).flatten := by
  have e : ((csL r).map encB).flatten = (((csL r).take 4).map encB).flatten ++ encB (qb ((125 - 3 * r) / 2 - 1)) := by
    rw [csL]
    simp only [nsL, List.map_cons, List.map_nil, List.take_succ_cons, List.take_zero, List.flatten_cons, List.flatten_nil, List.append_nil, List.append_assoc]
  rw [encB_len, csL_sum h, e, List.take_left' (by rw [encB_len, longer_sum2 h])]
theorem longer_unp (buf z : List UInt8) {r : Nat} (h : r < 22) : ∃ n, Unp (buf ++ ((((csL r).take 4).map encB).flatten ++ (encB (qb ((125 - 3 * r) / 2 + 1)) ++ z))) n buf.length buf.length 0 0 [] .refused := by
  have hs := longer_sum h
  have hl := qb_len ((125 - 3 * r) / 2 + 1)
  obtain ⟨_, _, _, h1, h2, _⟩ := nsL_all r h
  refine tooLong_ buf z _ _ (fun c hc => csL_ok h c (List.mem_of_mem_take hc)) (Nat.le_trans (Nat.le_add_right _ ((125 - 3 * r) / 2)) (by rw [hs]; decide)) (by rw [hl]; exact Nat.le_add_left _ _) (by rw [hl]; exact Nat.succ_le_succ h2) ?_
  rw [hl, ← Nat.add_assoc, ← Nat.add_assoc, hs]
  decide
theorem half_unp (buf : List UInt8) (hH : buf.length < 16384) : ∃ n, Unp (buf ++ (([qb 63, qb 63, qb 63].map encB).flatten ++ ([0] ++ (([qb 63, qb 63, qb 63].map encB).flatten ++ [hi buf.length, lo buf.length])))) n (buf.length + 192 + 1) (buf.length + 192 + 1) 0 0 [] .refused :=
  by_way buf [qb 63, qb 63, qb 63] (qb 63) rfl (qb_len 63) hH
theorem labels_at {g h : Heap} {L l : Addr} {r : Int} {t0 t1 t2 t3 t4 : Tok} {rest : List (Addr × Obj)} (N : News g L h ((l, listOf #[.int (42 + r) t0, .int (42 + r) t1, .int (42 + r) t2, .int (254 - 3 * (42 + r + 1) - (254 - 3 * (42 + r + 1)).fdiv 2 - 1) t3, .int ((254 - 3 * (42 + r + 1)).fdiv 2 - 1) t4] 0) :: rest)) (h0 : 0 ≤ r) (h1 : r < 22) :
    ∃ (rn : Nat) (lv : List Value), rn < 22 ∧ r = ((rn : Nat) : Int) ∧ News g L h ((l, listOf (List.toArray lv) 0) :: rest) ∧ IntsAre lv ((nsL rn).map fun n => ((n : Nat) : Int)) := by
  obtain ⟨rn, rfl⟩ := Int.eq_ofNat_of_zero_le h0
  have hr : rn < 22 := Int.ofNat_lt.mp h1
  refine ⟨rn, _, hr, rfl, N, ?_⟩
  obtain ⟨_, _, _, _, _, e, ef, eg, eh, _⟩ := nsL_all rn hr
  rw [e, ef, eg, eh]
  exact .cons _ _ (.cons _ _ (.cons _ _ (.cons _ _ (.cons _ _ .nil))))
theorem ints_at {lv : List Value} {l : List Nat} (h : IntsAre lv (l.map fun n => ((n : Nat) : Int))) {i : Nat} {v : Value} (hv : lv[i]? = some v) : ∃ (k : Nat) (t : Tok), l[i]? = some k ∧ v = .int ((k : Nat) : Int) t := by
  induction l generalizing lv i with
  | nil => cases h; simp at hv
  | cons k r ih =>
    rw [List.map_cons] at h
    cases h with
    | cons _ t h2 =>
      cases i with
      | zero => simp at hv; exact ⟨k, t, rfl, hv.symm⟩
      | succ i => exact ih h2 (by simpa using hv)
end Mine
end
section
open PySem PySem.W PyProof.Rows PyProof.Rows.LCg
set_option maxRecDepth 100000
namespace Mine
set_option linter.unusedVariables false
theorem ofString_q : Str.ofString "q" = sOf [113] := by decide +kernel
theorem mul_q {prog : Program} {w : World} {A : Around} {E Q : Value → Shared → Prop} {s : Shared} {n : Nat} {t u : Tok} (h1 : 1 ≤ n) (h2 : n ≤ 63) (h : ∀ t' k, Q (.str (sOf (qs n)) t') { s with toks := k }) :
    wpAny (model prog w) A (binaryOp .Mult (.str (Str.ofString "q") t) (.int ((n : Nat) : Int) u)) Q E s := by
  refine SB.mul (mulOk_of 1 63 (by decide +kernel) (by omega) (by omega) (by decide) (by decide)) fun t8 k8 => ?_
  rw [ofString_q, mul_sOf _ (by omega), Int.toNat_natCast, rep_qn]
  exact h _ _
theorem bv_sum {ls : List (List UInt8 × Tok)} {cs : List (List UInt8)} (h : ls.map (·.1) = cs) : (ls.map fun p => p.1.length).sum = cs.flatten.length := by
  rw [List.length_flatten, ← h, List.map_map]; rfl
theorem sumL_qs {r : Nat} (h : r < 22) : sumL ((nsL r).map qs) = 254 := by
  have := csL_sum h
  simp only [csL, sumB, List.map_map] at this
  simp only [sumL, List.map_map]
  rw [← this]
  congr 1
  exact List.map_congr_left fun n _ => by simp [qs, qb]
end Mine
namespace Mine
def halfB : List UInt8 := ([qb 63, qb 63, qb 63].map encB).flatten
theorem halfB_len : halfB.length = 192 := by unfold halfB; rw [encB_len]; simp [sumB, qb]
theorem half_three : (List.replicate (3 : Int).toNat ([63] ++ qb 63)).flatten = halfB := rfl
theorem fdiv2 (n : Nat) : ((n : Nat) : Int).fdiv 2 = ((n / 2 : Nat) : Int) := by rw [Int.fdiv_eq_ediv_of_nonneg _ (by decide)]; rfl
theorem half_unp2 (buf : List UInt8) (hH : buf.length < 16384) : ∃ n, Unp (buf ++ (halfB ++ ([0] ++ (halfB ++ [hi buf.length, lo buf.length])))) n (buf.length + 192 + 1) (buf.length + 192 + 1) 0 0 [] .refused := half_unp buf hH
end Mine
namespace Mine
theorem size_facts (buf : List UInt8) {r : Nat} (h : r < 22) : ∃ (O X4 Qk : List UInt8) (c8 : UInt8) (hf : Nat) (rs : Int), ((csL r).map encB).flatten = O ∧ O.length = 254 ∧ (254 : Int) - 3 * (42 + ((r : Nat) : Int) + 1) = rs ∧ rs.fdiv 2 = ((hf : Nat) : Int) ∧ 1 ≤ hf ∧ hf ≤ 62 ∧
    O.take (O.length - hf) = X4 ∧ X4.length ≤ 254 ∧ (((hf : Nat) : Int) + 1).toNat.toUInt8 = c8 ∧ (List.replicate (((hf : Nat) : Int) + 1).toNat [(113 : UInt8)]).flatten = Qk ∧ Qk.length = hf + 1 ∧
    ∃ n, Unp (buf ++ (X4 ++ [c8] ++ Qk) ++ [0]) n buf.length buf.length 0 0 [] .refused := by
  obtain ⟨_, _, _, a1, a2, ae, af, _, _, at1⟩ := nsL_all r h
  refine ⟨_, _, _, _, (125 - 3 * r) / 2, _, rfl, ?_, rfl, ?_, a1, a2, octets_cut h, ?_, rfl, rfl, ?_, ?_⟩
  · rw [encB_len]; exact csL_sum h
  · rw [ae]; exact af
  · rw [encB_len, longer_sum2 h]; exact Nat.sub_le _ _
  · rw [rep_q, qb_len, at1]
  · obtain ⟨n, hn⟩ := longer_unp buf [0] h
    refine ⟨n, ?_⟩
    rw [rep_q, at1]
    rw [show buf ++ ((((csL r).take 4).map encB).flatten ++ [((125 - 3 * r) / 2 + 1).toUInt8] ++ qb ((125 - 3 * r) / 2 + 1)) ++ [0] = buf ++ ((((csL r).take 4).map encB).flatten ++ (encB (qb ((125 - 3 * r) / 2 + 1)) ++ [0])) from by simp [encB, qb_len]]
    exact hn
theorem half_facts (buf : List UInt8) (hH : buf.length < 16384) : ∃ (H Q63 : List UInt8), (List.replicate (63 : Int).toNat [(113 : UInt8)]).flatten = Q63 ∧ Q63.length = 63 ∧ (List.replicate (3 : Int).toNat ([63] ++ Q63)).flatten = H ∧ H.length = 192 ∧
    ∃ n, Unp (buf ++ H ++ [0] ++ H ++ [hi buf.length, lo buf.length]) n (buf.length + 192 + 1) (buf.length + 192 + 1) 0 0 [] .refused := by
  refine ⟨halfB, qb 63, rep_q 63, qb_len 63, half_three, halfB_len, ?_⟩
  obtain ⟨n, hn⟩ := half_unp2 buf hH
  refine ⟨n, ?_⟩
  rw [show buf ++ halfB ++ [0] ++ halfB ++ [hi buf.length, lo buf.length] = buf ++ (halfB ++ ([0] ++ (halfB ++ [hi buf.length, lo buf.length]))) from by simp]
  exact hn
end Mine
namespace Mine
set_option linter.unusedVariables false
set_option maxRecDepth 100000 in
theorem good_end {s1 s' : Shared} {cl : Str → Option Addr} {mean : ExcName → Option Value} {L : Addr} {m : Str → Option Value} {ns : List Int} (F : Fr s1.heap L s'.heap m) (hg : s'.gens = #[]) (hos : s'.os = s1.os) :
    GoodW PySem.Challenge.rw_ao0004_01.row.claim cl mean [ofPy (PyData.list (ns.map PyData.int))] s1 (.ok (.ret (.bool true))) s' := by
  refine goodW_bool F hg (raisesW_false ?_) ?_ hos
  · wrow_none_raised
  · wrow_post
end Mine
end
section
open PySem PySem.W PyProof.Rows PyProof.Rows.LCg
namespace Mine
local macro_rules | `(tactic| k_all) => `(tactic| assumption)
set_option linter.unusedVariables false
set_option maxRecDepth 100000 in
set_option maxHeartbeats 40000000 in
theorem law_walk : PySem.Challenge.rw_ao0004_01.Holds := by
  refine Mine.hd ?_
  k_go0
  all_goals try k_fold
  have hn63 := len63 (by assumption)
  repeat' (first | ((fail_if_success (with_reducible show wpAny _ _ (call (Value.type "bytes") [Value.int _ _]) _ _ _)); first | ((with_reducible show wpAny _ _ (getMethod (Value.str _ _) (Str.ofString "encode") _) _ _ _); k_dflt (refine getMethod_encode ?_)) | ((with_reducible show wpAny _ _ (binaryOp .Add (Value.bytes _ _) (Value.bytes _ _)) _ _ _); k_dflt (refine addL (by first | omega | (simp only [List.length_map, List.length_append, List.length_cons, List.length_nil, List.length_singleton]; omega)) ?_); intro zt zk) | ((with_reducible show wpAny _ _ (call (Value.builtin "len") _) _ _ _); k_dflt (refine lenL (by first | omega | (simp only [List.length_map, List.length_append, List.length_cons, List.length_nil, List.length_singleton]; omega)) ?_); intro zt zk) | ((with_reducible show wpAny _ _ (call (Value.ref 122) _) _ _ _); k_dflt (refine' names_call ?zzB ?zzF ?zzX ?zzN ?zzT ?zzhk ?zzhl ?zzhi ?zzhn ?zzU ?zzh0 ?zzhx0 ?zzhx1 ?zzhd ?zzhu ?_; (case zzB => k_asm); (case zzF => k_asm); (case zzX => k_asm); (case zzN => k_asm); (case zzT => k_asm); (case zzhk => exact rfl); (case zzU => k_updF); (case zzhl => k_asm); (case zzhi => k_asm); (case zzhn => k_asm); (case zzh0 => omega); (case zzhx0 => omega); (case zzhx1 => omega); (case zzhd => ktr_room); (case zzhu => ktr_units)); (try clear zb3); (try clear zb4); (try clear zb5); intro zfl znl zc zi zx zti ztx zh ztk zb0 zb1 zb2 zb3 zb4 zb5 zF zN zf1 zf2; (try dsimp only at zN); (try k_sweep)) | ((with_reducible show wpAny _ _ (call (Value.ref 112) _) _ _ _); k_dflt (refine' oct_callL ?zzB ?zzF ?zzX ?zzN ?zzT ?zzhk ?zzhl ?zzhi ?zzhn ?zzU ?zzh0 ?zzhx0 ?zzhx1 ?zzhk0 ?zzhk1 ?zzhd ?zzhu ?_; (case zzB => k_asm); (case zzF => k_asm); (case zzX => k_asm); (case zzN => k_asm); (case zzT => k_asm); (case zzhk => exact rfl); (case zzU => k_updF); (case zzhl => k_asm); (case zzhi => k_asm); (case zzhn => k_asm); (case zzh0 => omega); (case zzhx0 => omega); (case zzhx1 => omega); (case zzhk0 => omega); (case zzhk1 => omega); (case zzhd => ktr_room); (case zzhu => ktr_units)); (try clear zb3); (try clear zb4); (try clear zb5); intro zbb zu zi zx zti ztx zh ztk zb0 zb3 zb4 zb5 zF zN; (try dsimp only at zN); (try k_sweep)) | ((with_reducible show wpAny _ _ (call (Value.ref 107) _) _ _ _); k_dflt (refine' next_call ?zzB ?zzF ?zzX ?zzN ?zzT ?zzhk ?zzhl ?zzhi ?zzhn ?zzU ?zzh0 ?zzhx0 ?zzhx1 ?zzhk0 ?zzhd ?zzhu ?_; (case zzB => k_asm); (case zzF => k_asm); (case zzX => k_asm); (case zzN => k_asm); (case zzT => k_asm); (case zzhk => exact rfl); (case zzU => k_updF); (case zzhl => k_asm); (case zzhi => k_asm); (case zzhn => k_asm); (case zzh0 => omega); (case zzhx0 => omega); (case zzhx1 => omega); (case zzhk0 => omega); (case zzhd => ktr_room); (case zzhu => ktr_units)); (try clear zb3); (try clear zb4); (try clear zb5); intro zr zu zi zx zti ztx zh ztk zb1 zb2 zb3 zb4 zb5 zF zN; (try dsimp only at zN); (try k_sweep)) | (k_unfold; (try dsimp only)) | walk1 | dsimp only) | fail "no step")
  refine bytes_zero (menu2 _).1 (Int.le_trans (menu2 _).2 (by decide)) fun tz kz => ?_
  repeat' (first | ((fail_if_success (with_reducible show wpAny _ _ (binaryOp .Add _ _) _ _ _)); first | ((with_reducible show wpAny _ _ (getMethod (Value.str _ _) (Str.ofString "encode") _) _ _ _); k_dflt (refine getMethod_encode ?_)) | ((with_reducible show wpAny _ _ (binaryOp .Add (Value.bytes _ _) (Value.bytes _ _)) _ _ _); k_dflt (refine addL (by first | omega | (simp only [List.length_map, List.length_append, List.length_cons, List.length_nil, List.length_singleton]; omega)) ?_); intro zt zk) | ((with_reducible show wpAny _ _ (call (Value.builtin "len") _) _ _ _); k_dflt (refine lenL (by first | omega | (simp only [List.length_map, List.length_append, List.length_cons, List.length_nil, List.length_singleton]; omega)) ?_); intro zt zk) | ((with_reducible show wpAny _ _ (call (Value.ref 122) _) _ _ _); k_dflt (refine' names_call ?zzB ?zzF ?zzX ?zzN ?zzT ?zzhk ?zzhl ?zzhi ?zzhn ?zzU ?zzh0 ?zzhx0 ?zzhx1 ?zzhd ?zzhu ?_; (case zzB => k_asm); (case zzF => k_asm); (case zzX => k_asm); (case zzN => k_asm); (case zzT => k_asm); (case zzhk => exact rfl); (case zzU => k_updF); (case zzhl => k_asm); (case zzhi => k_asm); (case zzhn => k_asm); (case zzh0 => omega); (case zzhx0 => omega); (case zzhx1 => omega); (case zzhd => ktr_room); (case zzhu => ktr_units)); (try clear zb3); (try clear zb4); (try clear zb5); intro zfl znl zc zi zx zti ztx zh ztk zb0 zb1 zb2 zb3 zb4 zb5 zF zN zf1 zf2; (try dsimp only at zN); (try k_sweep)) | ((with_reducible show wpAny _ _ (call (Value.ref 112) _) _ _ _); k_dflt (refine' oct_callL ?zzB ?zzF ?zzX ?zzN ?zzT ?zzhk ?zzhl ?zzhi ?zzhn ?zzU ?zzh0 ?zzhx0 ?zzhx1 ?zzhk0 ?zzhk1 ?zzhd ?zzhu ?_; (case zzB => k_asm); (case zzF => k_asm); (case zzX => k_asm); (case zzN => k_asm); (case zzT => k_asm); (case zzhk => exact rfl); (case zzU => k_updF); (case zzhl => k_asm); (case zzhi => k_asm); (case zzhn => k_asm); (case zzh0 => omega); (case zzhx0 => omega); (case zzhx1 => omega); (case zzhk0 => omega); (case zzhk1 => omega); (case zzhd => ktr_room); (case zzhu => ktr_units)); (try clear zb3); (try clear zb4); (try clear zb5); intro zbb zu zi zx zti ztx zh ztk zb0 zb3 zb4 zb5 zF zN; (try dsimp only at zN); (try k_sweep)) | ((with_reducible show wpAny _ _ (call (Value.ref 107) _) _ _ _); k_dflt (refine' next_call ?zzB ?zzF ?zzX ?zzN ?zzT ?zzhk ?zzhl ?zzhi ?zzhn ?zzU ?zzh0 ?zzhx0 ?zzhx1 ?zzhk0 ?zzhd ?zzhu ?_; (case zzB => k_asm); (case zzF => k_asm); (case zzX => k_asm); (case zzN => k_asm); (case zzT => k_asm); (case zzhk => exact rfl); (case zzU => k_updF); (case zzhl => k_asm); (case zzhi => k_asm); (case zzhn => k_asm); (case zzh0 => omega); (case zzhx0 => omega); (case zzhx1 => omega); (case zzhk0 => omega); (case zzhd => ktr_room); (case zzhu => ktr_units)); (try clear zb3); (try clear zb4); (try clear zb5); intro zr zu zi zx zti ztx zh ztk zb1 zb2 zb3 zb4 zb5 zF zN; (try dsimp only at zN); (try k_sweep)) | (k_unfold; (try dsimp only)) | walk1 | dsimp only) | fail "no step")
  refine addA (by have := menu2; rw [List.length_replicate]; exact len_menu (by omega)) fun bgn tb kb hbgn => ?_
  have hbg : bgn.length ≤ 14004 := by rw [hbgn, List.length_replicate]; exact len_menu2 (by omega)
  repeat' (first | ((fail_if_success (with_reducible show wpAny _ _ (exec (Stmt.For ..) _) _ _ _)); first | ((with_reducible show wpAny _ _ (getMethod (Value.str _ _) (Str.ofString "encode") _) _ _ _); k_dflt (refine getMethod_encode ?_)) | ((with_reducible show wpAny _ _ (binaryOp .Add (Value.bytes _ _) (Value.bytes _ _)) _ _ _); k_dflt (refine addL (by first | omega | (simp only [List.length_map, List.length_append, List.length_cons, List.length_nil, List.length_singleton]; omega)) ?_); intro zt zk) | ((with_reducible show wpAny _ _ (call (Value.builtin "len") _) _ _ _); k_dflt (refine lenL (by first | omega | (simp only [List.length_map, List.length_append, List.length_cons, List.length_nil, List.length_singleton]; omega)) ?_); intro zt zk) | ((with_reducible show wpAny _ _ (call (Value.ref 122) _) _ _ _); k_dflt (refine' names_call ?zzB ?zzF ?zzX ?zzN ?zzT ?zzhk ?zzhl ?zzhi ?zzhn ?zzU ?zzh0 ?zzhx0 ?zzhx1 ?zzhd ?zzhu ?_; (case zzB => k_asm); (case zzF => k_asm); (case zzX => k_asm); (case zzN => k_asm); (case zzT => k_asm); (case zzhk => exact rfl); (case zzU => k_updF); (case zzhl => k_asm); (case zzhi => k_asm); (case zzhn => k_asm); (case zzh0 => omega); (case zzhx0 => omega); (case zzhx1 => omega); (case zzhd => ktr_room); (case zzhu => ktr_units)); (try clear zb3); (try clear zb4); (try clear zb5); intro zfl znl zc zi zx zti ztx zh ztk zb0 zb1 zb2 zb3 zb4 zb5 zF zN zf1 zf2; (try dsimp only at zN); (try k_sweep)) | ((with_reducible show wpAny _ _ (call (Value.ref 112) _) _ _ _); k_dflt (refine' oct_callL ?zzB ?zzF ?zzX ?zzN ?zzT ?zzhk ?zzhl ?zzhi ?zzhn ?zzU ?zzh0 ?zzhx0 ?zzhx1 ?zzhk0 ?zzhk1 ?zzhd ?zzhu ?_; (case zzB => k_asm); (case zzF => k_asm); (case zzX => k_asm); (case zzN => k_asm); (case zzT => k_asm); (case zzhk => exact rfl); (case zzU => k_updF); (case zzhl => k_asm); (case zzhi => k_asm); (case zzhn => k_asm); (case zzh0 => omega); (case zzhx0 => omega); (case zzhx1 => omega); (case zzhk0 => omega); (case zzhk1 => omega); (case zzhd => ktr_room); (case zzhu => ktr_units)); (try clear zb3); (try clear zb4); (try clear zb5); intro zbb zu zi zx zti ztx zh ztk zb0 zb3 zb4 zb5 zF zN; (try dsimp only at zN); (try k_sweep)) | ((with_reducible show wpAny _ _ (call (Value.ref 107) _) _ _ _); k_dflt (refine' next_call ?zzB ?zzF ?zzX ?zzN ?zzT ?zzhk ?zzhl ?zzhi ?zzhn ?zzU ?zzh0 ?zzhx0 ?zzhx1 ?zzhk0 ?zzhd ?zzhu ?_; (case zzB => k_asm); (case zzF => k_asm); (case zzX => k_asm); (case zzN => k_asm); (case zzT => k_asm); (case zzhk => exact rfl); (case zzU => k_updF); (case zzhl => k_asm); (case zzhi => k_asm); (case zzhn => k_asm); (case zzh0 => omega); (case zzhx0 => omega); (case zzhx1 => omega); (case zzhk0 => omega); (case zzhd => ktr_room); (case zzhu => ktr_units)); (try clear zb3); (try clear zb4); (try clear zb5); intro zr zu zi zx zti ztx zh ztk zb1 zb2 zb3 zb4 zb5 zF zN; (try dsimp only at zN); (try k_sweep)) | (k_unfold; (try dsimp only)) | walk1 | dsimp only) | fail "no step")
  rename News _ _ _ _ => N9
  rename Fr _ _ _ _ => F9
  obtain ⟨pl, dp, de, st, odP, odE, oce, e1, e2, e3, e4, e5, e6, e7⟩ := newsName5 N9
  subst e1 e2 e3 e4 e5 e6 e7
  rename World => ww
  rename Shared => s1
  rename Heap.IsList _ _ _ => hSL
  obtain ⟨sc, vs, e1, e2⟩ := isListName hSL
  subst e1 e2
  have hDE : odE.IsDictOf (PySem.strKind PR ww) [] := by assumption
  have hDP : odP.IsDictOf (PySem.strKind PR ww) [] := by assumption
  have hDP2 : odP.IsDictOf (bytesKind PR ww) [] := dict_empty hDP
  refine wpAny_mono (Q := OutQ ww s1 s1.heap s1.heap.objs.size st sc (s1.heap.objs.size + 1) de dp pl oce) (E := fun _ _ => False) ?_ ?_ (fun _ _ h => h.elim)
  · refine wpAny_For ?_
    repeat' (first | ((fail_if_success (with_reducible show wpAny _ _ (pyIter _) _ _ _)); first | ((with_reducible show wpAny _ _ (getMethod (Value.str _ _) (Str.ofString "encode") _) _ _ _); k_dflt (refine getMethod_encode ?_)) | ((with_reducible show wpAny _ _ (binaryOp .Add (Value.bytes _ _) (Value.bytes _ _)) _ _ _); k_dflt (refine addL (by first | omega | (simp only [List.length_map, List.length_append, List.length_cons, List.length_nil, List.length_singleton]; omega)) ?_); intro zt zk) | ((with_reducible show wpAny _ _ (call (Value.builtin "len") _) _ _ _); k_dflt (refine lenL (by first | omega | (simp only [List.length_map, List.length_append, List.length_cons, List.length_nil, List.length_singleton]; omega)) ?_); intro zt zk) | ((with_reducible show wpAny _ _ (call (Value.ref 122) _) _ _ _); k_dflt (refine' names_call ?zzB ?zzF ?zzX ?zzN ?zzT ?zzhk ?zzhl ?zzhi ?zzhn ?zzU ?zzh0 ?zzhx0 ?zzhx1 ?zzhd ?zzhu ?_; (case zzB => k_asm); (case zzF => k_asm); (case zzX => k_asm); (case zzN => k_asm); (case zzT => k_asm); (case zzhk => exact rfl); (case zzU => k_updF); (case zzhl => k_asm); (case zzhi => k_asm); (case zzhn => k_asm); (case zzh0 => omega); (case zzhx0 => omega); (case zzhx1 => omega); (case zzhd => ktr_room); (case zzhu => ktr_units)); (try clear zb3); (try clear zb4); (try clear zb5); intro zfl znl zc zi zx zti ztx zh ztk zb0 zb1 zb2 zb3 zb4 zb5 zF zN zf1 zf2; (try dsimp only at zN); (try k_sweep)) | ((with_reducible show wpAny _ _ (call (Value.ref 112) _) _ _ _); k_dflt (refine' oct_callL ?zzB ?zzF ?zzX ?zzN ?zzT ?zzhk ?zzhl ?zzhi ?zzhn ?zzU ?zzh0 ?zzhx0 ?zzhx1 ?zzhk0 ?zzhk1 ?zzhd ?zzhu ?_; (case zzB => k_asm); (case zzF => k_asm); (case zzX => k_asm); (case zzN => k_asm); (case zzT => k_asm); (case zzhk => exact rfl); (case zzU => k_updF); (case zzhl => k_asm); (case zzhi => k_asm); (case zzhn => k_asm); (case zzh0 => omega); (case zzhx0 => omega); (case zzhx1 => omega); (case zzhk0 => omega); (case zzhk1 => omega); (case zzhd => ktr_room); (case zzhu => ktr_units)); (try clear zb3); (try clear zb4); (try clear zb5); intro zbb zu zi zx zti ztx zh ztk zb0 zb3 zb4 zb5 zF zN; (try dsimp only at zN); (try k_sweep)) | ((with_reducible show wpAny _ _ (call (Value.ref 107) _) _ _ _); k_dflt (refine' next_call ?zzB ?zzF ?zzX ?zzN ?zzT ?zzhk ?zzhl ?zzhi ?zzhn ?zzU ?zzh0 ?zzhx0 ?zzhx1 ?zzhk0 ?zzhd ?zzhu ?_; (case zzB => k_asm); (case zzF => k_asm); (case zzX => k_asm); (case zzN => k_asm); (case zzT => k_asm); (case zzhk => exact rfl); (case zzU => k_updF); (case zzhl => k_asm); (case zzhi => k_asm); (case zzhn => k_asm); (case zzh0 => omega); (case zzhx0 => omega); (case zzhx1 => omega); (case zzhk0 => omega); (case zzhd => ktr_room); (case zzhu => ktr_units)); (try clear zb3); (try clear zb4); (try clear zb5); intro zr zu zi zx zti ztx zh ztk zb1 zb2 zb3 zb4 zb5 zF zN; (try dsimp only at zN); (try k_sweep)) | (k_unfold; (try dsimp only)) | walk1 | dsimp only) | fail "no step")
    rename NOk _ => hnok
    rename ∀ q ∈ _, ∀ p ∈ _, _ ≠ _ => f1
    rename Fr _ _ _ _ => F8
    rename News _ _ _ _ => N8
    obtain ⟨fl, nl, cn, e1, e2, e3⟩ := nlName N8
    subst e1 e2 e3
    have F7 : Fr s1.heap s1.heap.objs.size _ _ := F8
    have N7 : News s1.heap s1.heap.objs.size _ ((de, odE) :: (dp, odP) :: (pl, listOf ([] : List Value).toArray 0) :: (st, stObj sc _ _ _ _) :: (s1.heap.objs.size + 1, oce) :: (fl, listOf (refsOf nl).toArray cn) :: tailOf nl) := News.sub N8 (fun p hp => by
      rcases List.mem_cons.mp hp with rfl | hp
      · exact List.mem_append_right _ (.tail _ (.tail _ (.tail _ (.head _))))
      rcases List.mem_cons.mp hp with rfl | hp
      · exact List.mem_append_right _ (.tail _ (.tail _ (.head _)))
      rcases List.mem_cons.mp hp with rfl | hp
      · exact List.mem_append_right _ (.tail _ (.head _))
      rcases List.mem_cons.mp hp with rfl | hp
      · exact List.mem_append_right _ (.tail _ (.tail _ (.tail _ (.tail _ (.tail _ (.head _))))))
      rcases List.mem_cons.mp hp with rfl | hp
      · exact List.mem_append_right _ (.tail _ (.tail _ (.tail _ (.tail _ (.tail _ (.tail _ (.head _)))))))
      · exact List.mem_append_left _ hp)
    have f3 : ∀ q ∈ (fl, listOf (refsOf nl).toArray cn) :: tailOf nl, q.1 ≠ de ∧ q.1 ≠ dp ∧ q.1 ≠ pl ∧ q.1 ≠ st ∧ q.1 ≠ s1.heap.objs.size + 1 := fun q hq => ⟨fun z => f1 q hq (de, odE) (.tail _ (.tail _ (.tail _ (.head _)))) z.symm, fun z => f1 q hq (dp, odP) (.tail _ (.tail _ (.head _))) z.symm, fun z => f1 q hq (pl, _) (.tail _ (.head _)) z.symm, fun z => f1 q hq (st, _) (.tail _ (.tail _ (.tail _ (.tail _ (.tail _ (.head _)))))) z.symm, fun z => f1 q hq (s1.heap.objs.size + 1, oce) (.tail _ (.tail _ (.tail _ (.tail _ (.tail _ (.tail _ (.head _))))))) z.symm⟩
    clear F8 N8 f1
    refine for_list (lo := listOf (refsOf nl).toArray cn) (items := (refsOf nl).toArray) rfl rfl F7 N7 (.tail _ (.tail _ (.tail _ (.tail _ (.tail _ (.head _)))))) (fun h e => ⟨_, e, rfl, _, rfl⟩) (fun _ _ _ _ _ _ _ h => wpAny_of_eq rfl h) fun I hI => ⟨OutK ww st sc (s1.heap.objs.size + 1) de dp pl I oce ((fl, listOf (refsOf nl).toArray cn) :: tailOf nl), ?_, ?_, ?_, ?_⟩
    all_goals have hA : de ≠ I ∧ dp ≠ I ∧ pl ≠ I ∧ st ≠ I ∧ s1.heap.objs.size + 1 ≠ I := ⟨Nat.ne_of_lt (hI (de, odE) (by k_mem)), Nat.ne_of_lt (hI (dp, odP) (by k_mem)), Nat.ne_of_lt (hI (pl, _) (by k_mem)), Nat.ne_of_lt (hI (st, _) (by k_mem)), Nat.ne_of_lt (hI (s1.heap.objs.size + 1, oce) (by k_mem))⟩
    · refine ⟨bgn, [], [], [], odE, [], odP, [], 0, _, _, _, _, _, _, rfl, rfl, rfl, rfl, rfl, hDE, .nil, hDP2, .nil, .nil, good_nil, (fun e he => nomatch he), rfl, by simp, by omega, by assumption, by assumption, by assumption, (fun p hp => hp), fun p hp => ?_⟩
      obtain ⟨a1, a2, a3, a4, a5⟩ := f3 p hp
      exact ⟨a1, a2, a3, a4, a5, Nat.ne_of_lt (hI p (.tail _ (.tail _ (.tail _ (.tail _ (.tail _ hp))))))⟩
    · rintro i m news ⟨buf, eb, pls, kvE, odE', kvP, odP', lp, cp, i', x', ti, tx, t1, tl, j1, j2, j3, j4, rfl, j5, j6, j7, j8, j9, j10, j11, j12, j13, j14, j15, j16, j17, j18, j19⟩
      refine ⟨fun p hp => .inl ?_, fun p hp => ?_⟩
      · rw [List.mem_singleton.mp hp]
        exact .tail _ (.tail _ (.tail _ (.tail _ (.tail _ (j18 _ (.head _))))))
      · rcases List.mem_cons.mp hp with rfl | hp
        · exact hA.1
        rcases List.mem_cons.mp hp with rfl | hp
        · exact hA.2.1
        rcases List.mem_cons.mp hp with rfl | hp
        · exact hA.2.2.1
        rcases List.mem_cons.mp hp with rfl | hp
        · exact hA.2.2.2.1
        rcases List.mem_cons.mp hp with rfl | hp
        · exact hA.2.2.2.2
        · exact (j19 p hp).2.2.2.2.2
    · rintro i v m₁ news₁ h tk oI hi hv ⟨buf, eb, pls, kvE, odE', kvP, odP', lp, cp, i', x', ti, tx, t1, tl, j1, j2, j3, j4, rfl, j5, j6, j7, j8, j9, j10, j11, j12, j13, j14, j15, j16, j17, j18, j19⟩ F1 N1
      w_top off
      obtain ⟨e, he, rfl⟩ := refs_at hv
      rw [m_at4 j1 j2 j3 j4] at F1
      clear j1 j2 j3 j4 F7 N7 hI hv F9 N9
      have hA1 : @Ne Nat de I := hA.1
      have hA2 : @Ne Nat dp I := hA.2.1
      have hA3 : @Ne Nat pl I := hA.2.2.1
      have hA4 : @Ne Nat st I := hA.2.2.2.1
      have ht1 : ∀ p ∈ tl, p.1 ≠ de := fun p hp => (j19 p hp).1
      have ht2 : ∀ p ∈ tl, p.1 ≠ dp := fun p hp => (j19 p hp).2.1
      have ht3 : ∀ p ∈ tl, p.1 ≠ pl := fun p hp => (j19 p hp).2.2.1
      have ht4 : ∀ p ∈ tl, p.1 ≠ st := fun p hp => (j19 p hp).2.2.2.1
      have hme : (e.1, listOf (strValues e.2.1).toArray e.2.2) ∈ tl := j18 _ (.tail _ (List.mem_map.mpr ⟨e, he, rfl⟩))
      obtain ⟨he4, hel⟩ := hnok e he
      have hls := cps_ok hel
      have hsum : sumL (cpsOf e.2.1) ≤ 220 := sum_le (by rw [cpsOf_length]; exact he4) hls
      have hi6 : i ≤ 5 := by have : i < (refsOf nl).toArray.size := hi; simp [refsOf] at this; omega
      have hbf : buf.length ≤ 15109 := by clear hA hA1 hA2 hA3 hA4; omega
      have heb : eb.length ≤ 20 := by clear hA hA1 hA2 hA3 hA4; omega
      have hpl : pls.length ≤ 5 := by clear hA hA1 hA2 hA3 hA4; omega
      have K12 := kp j12
      have K13 := kp j13
      have K14 := kp j14
      have K15 := kp j15
      have K16 := kp j16
      have K17 := kp j17
      clear j12 j13 j14 j15 j16 j17 hi6
      dsimp only
      repeat' (first | ((fail_if_success (with_reducible show wpAny _ _ (call (Value.builtin "str.join") _) _ _ _)); first | ((with_reducible show wpAny _ _ (getMethod (Value.str _ _) (Str.ofString "encode") _) _ _ _); k_dflt (refine getMethod_encode ?_)) | ((with_reducible show wpAny _ _ (binaryOp .Add (Value.bytes _ _) (Value.bytes _ _)) _ _ _); k_dflt (refine addL (by first | omega | (simp only [List.length_map, List.length_append, List.length_cons, List.length_nil, List.length_singleton]; omega)) ?_); intro zt zk) | ((with_reducible show wpAny _ _ (call (Value.builtin "len") _) _ _ _); k_dflt (refine lenL (by first | omega | (simp only [List.length_map, List.length_append, List.length_cons, List.length_nil, List.length_singleton]; omega)) ?_); intro zt zk) | ((with_reducible show wpAny _ _ (call (Value.ref 107) _) _ _ _); k_dflt (refine' next_call ?zzB ?zzF ?zzX ?zzN ?zzT ?zzhk ?zzhl ?zzhi ?zzhn ?zzU ?zzh0 ?zzhx0 ?zzhx1 ?zzhk0 ?zzhd ?zzhu ?_; (case zzB => k_asm); (case zzF => k_asm); (case zzX => k_asm); (case zzN => k_asm); (case zzT => k_asm); (case zzhk => exact rfl); (case zzU => k_updF); (case zzhl => k_asm); (case zzhi => k_asm); (case zzhn => k_asm); (case zzh0 => omega); (case zzhx0 => omega); (case zzhx1 => omega); (case zzhk0 => omega); (case zzhd => ktr_room); (case zzhu => ktr_units)); (try clear zb3); (try clear zb4); (try clear zb5); intro zr zu zi zx zti ztx zh ztk zb1 zb2 zb3 zb4 zb5 zF zN; (try dsimp only at zN); (try k_sweep)) | (k_unfold; (try dsimp only)) | walk1 | dsimp only) | fail "no step")
      rename News _ _ _ _ => N2
      refine call_joinS (l := e.2.1) (N2.isList (n := e.2.2) (by (repeat (first | exact hme | refine List.Mem.tail _ ?_)))) (by omega) fun t2 k2 => ?_
      repeat' (first | ((fail_if_success (with_reducible show wpAny _ _ (call (Value.ref 93) _) _ _ _)); first | ((with_reducible show wpAny _ _ (getMethod (Value.str _ _) (Str.ofString "encode") _) _ _ _); k_dflt (refine getMethod_encode ?_)) | ((with_reducible show wpAny _ _ (binaryOp .Add (Value.bytes _ _) (Value.bytes _ _)) _ _ _); k_dflt (refine addL (by first | omega | (simp only [List.length_map, List.length_append, List.length_cons, List.length_nil, List.length_singleton]; omega)) ?_); intro zt zk) | ((with_reducible show wpAny _ _ (call (Value.builtin "len") _) _ _ _); k_dflt (refine lenL (by first | omega | (simp only [List.length_map, List.length_append, List.length_cons, List.length_nil, List.length_singleton]; omega)) ?_); intro zt zk) | ((with_reducible show wpAny _ _ (call (Value.ref 107) _) _ _ _); k_dflt (refine' next_call ?zzB ?zzF ?zzX ?zzN ?zzT ?zzhk ?zzhl ?zzhi ?zzhn ?zzU ?zzh0 ?zzhx0 ?zzhx1 ?zzhk0 ?zzhd ?zzhu ?_; (case zzB => k_asm); (case zzF => k_asm); (case zzX => k_asm); (case zzN => k_asm); (case zzT => k_asm); (case zzhk => exact rfl); (case zzU => k_updF); (case zzhl => k_asm); (case zzhi => k_asm); (case zzhn => k_asm); (case zzh0 => omega); (case zzhx0 => omega); (case zzhx1 => omega); (case zzhk0 => omega); (case zzhd => ktr_room); (case zzhu => ktr_units)); (try clear zb3); (try clear zb4); (try clear zb5); intro zr zu zi zx zti ztx zh ztk zb1 zb2 zb3 zb4 zb5 zF zN; (try dsimp only at zN); (try k_sweep)) | (k_unfold; (try dsimp only)) | walk1 | dsimp only) | fail "no step")
      rename News _ _ _ _ => N2
      rename Fr _ _ _ _ => F2
      refine' pack_call (nm := joinL [46] (cpsOf e.2.1)) (bl := (cpsOf e.2.1).map bOf) (tb := tbOf (ksOf eb)) (kvs := kvP) (off := buf.length) ?B ?F ?X ?N ?T ?hk ?U ?hD ?hds ?hP ?hd ?hu ?hnm ?hz ?hoff ?htb ?htl ?hsm ?hl63 ?hbl ?_
      case B => k_asm
      case F => k_asm
      case X => k_asm
      case N => k_asm
      case T => k_asm
      case hk => exact rfl
      case U => k_updF
      case hD => exact j7
      case hds => assumption
      case hP => exact j8
      case hd => ktr_room
      case hu => ktr_units
      case hnm => exact join_lt hls
      case hz => exact join_len hsum
      case hoff => omega
      case htb => exact tb_small j10
      case htl => rw [tbOf, List.length_map, ksOf, List.length_map]; omega
      case hsm => exact sum_bOf hsum
      case hl63 => exact len_bOf hls
      case hbl => exact split_bOf hls
      intro told tb' kvP' odP2 u3 h3 tk3 hpk hPt F3 N3 hD3
      try dsimp only at N3
      rw [pack_sim0 j10 hls, Prod.mk.injEq] at hpk
      obtain ⟨hpk1, hpk2⟩ := hpk
      subst hpk1 hpk2
      clear F2 N2
      repeat' (first | ((fail_if_success (with_reducible show wpAny _ _ (exec (Stmt.For ..) _) _ _ _)); first | ((with_reducible show wpAny _ _ (getMethod (Value.str _ _) (Str.ofString "encode") _) _ _ _); k_dflt (refine getMethod_encode ?_)) | ((with_reducible show wpAny _ _ (binaryOp .Add (Value.bytes _ _) (Value.bytes _ _)) _ _ _); k_dflt (refine addL (by first | omega | (simp only [List.length_map, List.length_append, List.length_cons, List.length_nil, List.length_singleton]; omega)) ?_); intro zt zk) | ((with_reducible show wpAny _ _ (call (Value.builtin "len") _) _ _ _); k_dflt (refine lenL (by first | omega | (simp only [List.length_map, List.length_append, List.length_cons, List.length_nil, List.length_singleton]; omega)) ?_); intro zt zk) | ((with_reducible show wpAny _ _ (call (Value.ref 107) _) _ _ _); k_dflt (refine' next_call ?zzB ?zzF ?zzX ?zzN ?zzT ?zzhk ?zzhl ?zzhi ?zzhn ?zzU ?zzh0 ?zzhx0 ?zzhx1 ?zzhk0 ?zzhd ?zzhu ?_; (case zzB => k_asm); (case zzF => k_asm); (case zzX => k_asm); (case zzN => k_asm); (case zzT => k_asm); (case zzhk => exact rfl); (case zzU => k_updF); (case zzhl => k_asm); (case zzhi => k_asm); (case zzhn => k_asm); (case zzh0 => omega); (case zzhx0 => omega); (case zzhx1 => omega); (case zzhk0 => omega); (case zzhd => ktr_room); (case zzhu => ktr_units)); (try clear zb3); (try clear zb4); (try clear zb5); intro zr zu zi zx zti ztx zh ztk zb1 zb2 zb3 zb4 zb5 zF zN; (try dsimp only at zN); (try k_sweep)) | (k_unfold; (try dsimp only)) | walk1 | dsimp only) | fail "no step")
      rename News _ _ _ _ => N4
      rename Fr _ _ _ _ => F4
      obtain ⟨R, eR⟩ := secondName N4
      subst eR
      have hAL : @LT.lt Nat _ I R ∧ @LT.lt Nat _ de R ∧ @LT.lt Nat _ dp R ∧ @LT.lt Nat _ pl R ∧ @LT.lt Nat _ st R ∧ @LT.lt Nat _ (s1.heap.objs.size + 1) R ∧ AllLt R tl := by assumption
      refine wpAny_mono (Q := In1Q ww s1 s1.heap s1.heap.objs.size e.2.1 e.1 de dp pl st (s1.heap.objs.size + 1) I odP2 (listOf lp.toArray cp) (stObj sc i' ti x' tx) oce oI buf eb kvE tl (.bytes (List.toArray buf) t1) (.bytes (List.toArray (walkX eb (cpsOf e.2.1))) u3) (.ref dp) (.ref pl) (.ref st)) (E := fun _ _ => False) ?_ ?_ (fun _ _ h => h.elim)
      · refine wpAny_For ?_
        repeat' (first | ((fail_if_success (with_reducible show wpAny _ _ (call (Value.builtin "len") _) _ _ _)); first | ((with_reducible show wpAny _ _ (getMethod (Value.str _ _) (Str.ofString "encode") _) _ _ _); k_dflt (refine getMethod_encode ?_)) | ((with_reducible show wpAny _ _ (binaryOp .Add (Value.bytes _ _) (Value.bytes _ _)) _ _ _); k_dflt (refine addL (by first | omega | (simp only [List.length_map, List.length_append, List.length_cons, List.length_nil, List.length_singleton]; omega)) ?_); intro zt zk) | ((with_reducible show wpAny _ _ (call (Value.builtin "len") _) _ _ _); k_dflt (refine lenL (by first | omega | (simp only [List.length_map, List.length_append, List.length_cons, List.length_nil, List.length_singleton]; omega)) ?_); intro zt zk) | ((with_reducible show wpAny _ _ (call (Value.ref 107) _) _ _ _); k_dflt (refine' next_call ?zzB ?zzF ?zzX ?zzN ?zzT ?zzhk ?zzhl ?zzhi ?zzhn ?zzU ?zzh0 ?zzhx0 ?zzhx1 ?zzhk0 ?zzhd ?zzhu ?_; (case zzB => k_asm); (case zzF => k_asm); (case zzX => k_asm); (case zzN => k_asm); (case zzT => k_asm); (case zzhk => exact rfl); (case zzU => k_updF); (case zzhl => k_asm); (case zzhi => k_asm); (case zzhn => k_asm); (case zzh0 => omega); (case zzhx0 => omega); (case zzhx1 => omega); (case zzhk0 => omega); (case zzhd => ktr_room); (case zzhu => ktr_units)); (try clear zb3); (try clear zb4); (try clear zb5); intro zr zu zi zx zti ztx zh ztk zb1 zb2 zb3 zb4 zb5 zF zN; (try dsimp only at zN); (try k_sweep)) | (k_unfold; (try dsimp only)) | walk1 | dsimp only) | fail "no step")
        rename News _ _ _ _ => N5
        refine lenR (vs := strValues e.2.1) (N5.isList (n := e.2.2) (by (repeat (first | exact hme | refine List.Mem.tail _ ?_)))) (by rw [strValues_length]; omega) fun t5 k5 => ?_
        rw [strValues_length]
        repeat' (first | ((fail_if_success (with_reducible show wpAny _ _ (pyIter _) _ _ _)); first | ((with_reducible show wpAny _ _ (getMethod (Value.str _ _) (Str.ofString "encode") _) _ _ _); k_dflt (refine getMethod_encode ?_)) | ((with_reducible show wpAny _ _ (binaryOp .Add (Value.bytes _ _) (Value.bytes _ _)) _ _ _); k_dflt (refine addL (by first | omega | (simp only [List.length_map, List.length_append, List.length_cons, List.length_nil, List.length_singleton]; omega)) ?_); intro zt zk) | ((with_reducible show wpAny _ _ (call (Value.builtin "len") _) _ _ _); k_dflt (refine lenL (by first | omega | (simp only [List.length_map, List.length_append, List.length_cons, List.length_nil, List.length_singleton]; omega)) ?_); intro zt zk) | ((with_reducible show wpAny _ _ (call (Value.ref 107) _) _ _ _); k_dflt (refine' next_call ?zzB ?zzF ?zzX ?zzN ?zzT ?zzhk ?zzhl ?zzhi ?zzhn ?zzU ?zzh0 ?zzhx0 ?zzhx1 ?zzhk0 ?zzhd ?zzhu ?_; (case zzB => k_asm); (case zzF => k_asm); (case zzX => k_asm); (case zzN => k_asm); (case zzT => k_asm); (case zzhk => exact rfl); (case zzU => k_updF); (case zzhl => k_asm); (case zzhi => k_asm); (case zzhn => k_asm); (case zzh0 => omega); (case zzhx0 => omega); (case zzhx1 => omega); (case zzhk0 => omega); (case zzhd => ktr_room); (case zzhu => ktr_units)); (try clear zb3); (try clear zb4); (try clear zb5); intro zr zu zi zx zti ztx zh ztk zb1 zb2 zb3 zb4 zb5 zF zN; (try dsimp only at zN); (try k_sweep)) | (k_unfold; (try dsimp only)) | walk1 | dsimp only) | fail "no step")
        rename Fr _ _ _ _ => F5
        rename News _ _ _ _ => N5
        rename IsRange _ _ _ _ _ _ _ _ => hr5
        have N6 : News s1.heap s1.heap.objs.size _ ((R, listOf (strValues []).toArray 0) :: (de, odE') :: (dp, odP2) :: (pl, listOf lp.toArray cp) :: (st, stObj sc i' ti x' tx) :: (s1.heap.objs.size + 1, oce) :: (I, oI) :: tl) := News.sub N5 (by intro p hp; simp only [List.mem_cons] at hp ⊢; rcases hp with hp | hp | hp | hp | hp | hp | hp | hp <;> simp [hp, strValues])
        obtain ⟨b1, b2, b3, b4, b5, b6, b7⟩ := hAL
        refine for_range (L := s1.heap.objs.size) rfl rfl F5 N6 hr5 (by omega) (by omega) (fun _ _ => rfl) fun I1 hI1 => ⟨In1 ww e.2.1 e.1 de dp pl st (s1.heap.objs.size + 1) I I1 odP2 (listOf lp.toArray cp) (stObj sc i' ti x' tx) oce oI buf eb kvE tl (.bytes (List.toArray buf) t1) (.bytes (List.toArray (walkX eb (cpsOf e.2.1))) u3) (.ref dp) (.ref pl) (.ref st), ?_, ?_, ?_, ?_⟩
        all_goals have c1 : @LT.lt Nat _ R I1 := hI1 (R, _) (.head _)
        all_goals have c3 : @LT.lt Nat _ de I1 := hI1 (de, _) (by k_mem)
        all_goals have c2 : Off tl I1 := off_allLt fun p hp => hI1 p (by repeat (first | exact hp | refine List.Mem.tail _ ?_))
        · refine ⟨[], R, 0, [], odE', _, tl, ⟨rfl, rfl, rfl, rfl, rfl, rfl, rfl, rfl, rfl⟩, rfl, by rw [List.append_nil]; exact j5, .nil, Nat.zero_le _, rfl, fun p hp => hp, fun p hp => (j19 p hp).1, fun p hp => (j19 p hp).2.1, fun p hp => (j19 p hp).2.2.1, fun p hp => (j19 p hp).2.2.2.1, fun p hp => (j19 p hp).2.2.2.2.1, fun p hp => (j19 p hp).2.2.2.2.2, c2, off_allLt (allLt_mem b7), by omega, by omega, by omega, by omega, by omega, by omega, by omega⟩
        · rintro i m news ⟨rd, R2, c, kn, odE2, td, tl2, k1, rfl, k2, k3, k4, k5, k7, k8, k9, k10, k11, k12, k13, k14, k14', k15, k16, k17, k18, k19, k20, k21⟩
          refine ⟨fun p hp => (nomatch hp), fun p hp => ?_⟩
          rcases List.mem_cons.mp hp with rfl | hp
          · exact k15
          rcases List.mem_cons.mp hp with rfl | hp
          · exact Nat.ne_of_lt c3
          rcases List.mem_cons.mp hp with rfl | hp
          · exact Nat.ne_of_lt (hI1 (dp, _) (by k_mem))
          rcases List.mem_cons.mp hp with rfl | hp
          · exact Nat.ne_of_lt (hI1 (pl, _) (by k_mem))
          rcases List.mem_cons.mp hp with rfl | hp
          · exact Nat.ne_of_lt (hI1 (st, _) (by k_mem))
          rcases List.mem_cons.mp hp with rfl | hp
          · exact Nat.ne_of_lt (hI1 (s1.heap.objs.size + 1, _) (by k_mem))
          rcases List.mem_cons.mp hp with rfl | hp
          · exact Nat.ne_of_lt (hI1 (I, _) (by k_mem))
          · exact k14 p hp
        · rintro k v m₂ news₂ h2 tk2 oI1 hk ⟨tv, rfl⟩ ⟨rd, R2, c, kn, odE2, td, tl2, k1, rfl, k2, k3, k4, k5, k7, k8, k9, k10, k11, k12, k13, k14, k14', k15, k16, k17, k18, k19, k20, k21⟩ F1 N1
          clear F5 N5 N6 hr5 hI1
          rw [k1.nest] at F1
          have hkl : k < e.2.1.length := by have : k < (Int.toNat ((e.2.1.length : Nat) : Int)) := hk; simpa using this
          have u1 : ∀ p ∈ tl2, p.1 ≠ de := k8
          have u2 : ∀ p ∈ tl2, p.1 ≠ R2 := k14'
          have hme2 := k7 _ hme
          have hdl := cps_ok fun p hp => hel p (List.mem_of_mem_drop (i := k) hp)
          have hds := sum_drop (k := k) hsum
          try dsimp only
          repeat' (first | ((fail_if_success (with_reducible show wpAny _ _ (subscriptTail _ (PySem.Expr.Slice ..) _ _) _ _ _)); first | ((with_reducible show wpAny _ _ (getMethod (Value.str _ _) (Str.ofString "encode") _) _ _ _); k_dflt (refine getMethod_encode ?_)) | ((with_reducible show wpAny _ _ (binaryOp .Add (Value.bytes _ _) (Value.bytes _ _)) _ _ _); k_dflt (refine addL (by first | omega | (simp only [List.length_map, List.length_append, List.length_cons, List.length_nil, List.length_singleton]; omega)) ?_); intro zt zk) | ((with_reducible show wpAny _ _ (call (Value.builtin "len") _) _ _ _); k_dflt (refine lenL (by first | omega | (simp only [List.length_map, List.length_append, List.length_cons, List.length_nil, List.length_singleton]; omega)) ?_); intro zt zk) | ((with_reducible show wpAny _ _ (call (Value.ref 107) _) _ _ _); k_dflt (refine' next_call ?zzB ?zzF ?zzX ?zzN ?zzT ?zzhk ?zzhl ?zzhi ?zzhn ?zzU ?zzh0 ?zzhx0 ?zzhx1 ?zzhk0 ?zzhd ?zzhu ?_; (case zzB => k_asm); (case zzF => k_asm); (case zzX => k_asm); (case zzN => k_asm); (case zzT => k_asm); (case zzhk => exact rfl); (case zzU => k_updF); (case zzhl => k_asm); (case zzhi => k_asm); (case zzhn => k_asm); (case zzh0 => omega); (case zzhx0 => omega); (case zzhx1 => omega); (case zzhk0 => omega); (case zzhd => ktr_room); (case zzhu => ktr_units)); (try clear zb3); (try clear zb4); (try clear zb5); intro zr zu zi zx zti ztx zh ztk zb1 zb2 zb3 zb4 zb5 zF zN; (try dsimp only at zN); (try k_sweep)) | (k_unfold; (try dsimp only)) | walk1 | dsimp only) | fail "no step")
          rename Fr _ _ _ _ => F3
          rename News _ _ _ _ => N3
          refine cutR (vs := strValues e.2.1) (zs := strValues (e.2.1.drop k)) F3 N3 (N3.isList (n := e.2.2) (by (repeat (first | exact hme2 | refine List.Mem.tail _ ?_)))) (by constructor) (by constructor) (by rw [strValues_drop]; exact kms_from0 _ _) (fun D5 h5 F5 N5 l5 => ?_) (by with_unfolding_all rfl) (by intro _; with_unfolding_all rfl) (by rw [strValues_length]; omega)
          have g1 : @LT.lt Nat _ de D5 := l5 (de, _) (by k_mem)
          have g2 : @LT.lt Nat _ R2 D5 := l5 (R2, _) (by k_mem)
          have g3 : @LT.lt Nat _ I1 D5 := l5 (I1, _) (by k_mem)
          clear F3 N3
          repeat' (first | ((fail_if_success (with_reducible show wpAny _ _ (call (Value.builtin "str.join") _) _ _ _)); first | ((with_reducible show wpAny _ _ (getMethod (Value.str _ _) (Str.ofString "encode") _) _ _ _); k_dflt (refine getMethod_encode ?_)) | ((with_reducible show wpAny _ _ (binaryOp .Add (Value.bytes _ _) (Value.bytes _ _)) _ _ _); k_dflt (refine addL (by first | omega | (simp only [List.length_map, List.length_append, List.length_cons, List.length_nil, List.length_singleton]; omega)) ?_); intro zt zk) | ((with_reducible show wpAny _ _ (call (Value.builtin "len") _) _ _ _); k_dflt (refine lenL (by first | omega | (simp only [List.length_map, List.length_append, List.length_cons, List.length_nil, List.length_singleton]; omega)) ?_); intro zt zk) | ((with_reducible show wpAny _ _ (call (Value.ref 107) _) _ _ _); k_dflt (refine' next_call ?zzB ?zzF ?zzX ?zzN ?zzT ?zzhk ?zzhl ?zzhi ?zzhn ?zzU ?zzh0 ?zzhx0 ?zzhx1 ?zzhk0 ?zzhd ?zzhu ?_; (case zzB => k_asm); (case zzF => k_asm); (case zzX => k_asm); (case zzN => k_asm); (case zzT => k_asm); (case zzhk => exact rfl); (case zzU => k_updF); (case zzhl => k_asm); (case zzhi => k_asm); (case zzhn => k_asm); (case zzh0 => omega); (case zzhx0 => omega); (case zzhx1 => omega); (case zzhk0 => omega); (case zzhd => ktr_room); (case zzhu => ktr_units)); (try clear zb3); (try clear zb4); (try clear zb5); intro zr zu zi zx zti ztx zh ztk zb1 zb2 zb3 zb4 zb5 zF zN; (try dsimp only at zN); (try k_sweep)) | (k_unfold; (try dsimp only)) | walk1 | dsimp only) | fail "no step")
          rename News _ _ _ _ => N3
          refine call_joinS (l := e.2.1.drop k) (N3.isList (.head _)) (by rw [cpsOf_drop]; omega) fun t2 k2' => ?_
          repeat' (first | ((fail_if_success (with_reducible show wpAny _ _ (call (Value.builtin "str.upper") _) _ _ _)); first | ((with_reducible show wpAny _ _ (getMethod (Value.str _ _) (Str.ofString "encode") _) _ _ _); k_dflt (refine getMethod_encode ?_)) | ((with_reducible show wpAny _ _ (binaryOp .Add (Value.bytes _ _) (Value.bytes _ _)) _ _ _); k_dflt (refine addL (by first | omega | (simp only [List.length_map, List.length_append, List.length_cons, List.length_nil, List.length_singleton]; omega)) ?_); intro zt zk) | ((with_reducible show wpAny _ _ (call (Value.builtin "len") _) _ _ _); k_dflt (refine lenL (by first | omega | (simp only [List.length_map, List.length_append, List.length_cons, List.length_nil, List.length_singleton]; omega)) ?_); intro zt zk) | ((with_reducible show wpAny _ _ (call (Value.ref 107) _) _ _ _); k_dflt (refine' next_call ?zzB ?zzF ?zzX ?zzN ?zzT ?zzhk ?zzhl ?zzhi ?zzhn ?zzU ?zzh0 ?zzhx0 ?zzhx1 ?zzhk0 ?zzhd ?zzhu ?_; (case zzB => k_asm); (case zzF => k_asm); (case zzX => k_asm); (case zzN => k_asm); (case zzT => k_asm); (case zzhk => exact rfl); (case zzU => k_updF); (case zzhl => k_asm); (case zzhi => k_asm); (case zzhn => k_asm); (case zzh0 => omega); (case zzhx0 => omega); (case zzhx1 => omega); (case zzhk0 => omega); (case zzhd => ktr_room); (case zzhu => ktr_units)); (try clear zb3); (try clear zb4); (try clear zb5); intro zr zu zi zx zti ztx zh ztk zb1 zb2 zb3 zb4 zb5 zF zN; (try dsimp only at zN); (try k_sweep)) | (k_unfold; (try dsimp only)) | walk1 | dsimp only) | fail "no step")
          refine call_upS (join_lt hdl) (by have := join_len (ls := cpsOf (e.2.1.drop k)) (by rw [cpsOf_drop]; omega); omega) fun t3 k3' => ?_
          rw [show (joinL [46] (cpsOf (e.2.1.drop k))).map up1 = keyS ((cpsOf e.2.1).drop k) from by rw [cpsOf_drop]; rfl]
          repeat' (first | ((fail_if_success (with_reducible show wpAny _ _ (compareOp CmpOp.In _ _) _ _ _)); first | ((with_reducible show wpAny _ _ (getMethod (Value.str _ _) (Str.ofString "encode") _) _ _ _); k_dflt (refine getMethod_encode ?_)) | ((with_reducible show wpAny _ _ (binaryOp .Add (Value.bytes _ _) (Value.bytes _ _)) _ _ _); k_dflt (refine addL (by first | omega | (simp only [List.length_map, List.length_append, List.length_cons, List.length_nil, List.length_singleton]; omega)) ?_); intro zt zk) | ((with_reducible show wpAny _ _ (call (Value.builtin "len") _) _ _ _); k_dflt (refine lenL (by first | omega | (simp only [List.length_map, List.length_append, List.length_cons, List.length_nil, List.length_singleton]; omega)) ?_); intro zt zk) | ((with_reducible show wpAny _ _ (call (Value.ref 107) _) _ _ _); k_dflt (refine' next_call ?zzB ?zzF ?zzX ?zzN ?zzT ?zzhk ?zzhl ?zzhi ?zzhn ?zzU ?zzh0 ?zzhx0 ?zzhx1 ?zzhk0 ?zzhd ?zzhu ?_; (case zzB => k_asm); (case zzF => k_asm); (case zzX => k_asm); (case zzN => k_asm); (case zzT => k_asm); (case zzhk => exact rfl); (case zzU => k_updF); (case zzhl => k_asm); (case zzhi => k_asm); (case zzhn => k_asm); (case zzh0 => omega); (case zzhx0 => omega); (case zzhx1 => omega); (case zzhk0 => omega); (case zzhd => ktr_room); (case zzhu => ktr_units)); (try clear zb3); (try clear zb4); (try clear zb5); intro zr zu zi zx zti ztx zh ztk zb1 zb2 zb3 zb4 zb5 zF zN; (try dsimp only at zN); (try k_sweep)) | (k_unfold; (try dsimp only)) | walk1 | dsimp only) | fail "no step")
          rename Fr _ _ _ _ => F3
          rename News _ _ _ _ => N3
          have hdu : ((((cpsOf e.2.1).take k).map encL).flatten).length ≤ 220 := by rw [enc_len]; exact sum_take hsum
          have hlc : k < (cpsOf e.2.1).length := by rw [cpsOf_length]; exact hkl
          have hdE : (de, odE2) ∈ (D5, listOf (strValues (e.2.1.drop k)).toArray 0) :: (I1, oI1) :: (R2, listOf (strValues rd).toArray c) :: (de, odE2) :: (dp, odP2) :: (pl, listOf lp.toArray cp) :: (st, stObj sc i' ti x' tx) :: (s1.heap.objs.size + 1, oce) :: (I, oI) :: tl2 := by k_mem
          have hloE : (de == sysModules) = false := by assumption
          rcases j6.look (keyS ((cpsOf e.2.1).drop k)) with ⟨v1, v2⟩ | ⟨T, Rr, p, cr, tp, rest, v1, v2, v3, v4⟩
          · have hv : valueAt (kvE ++ kn) (sOf (keyS ((cpsOf e.2.1).drop k))) = none := by rw [valueAt_app_none v1]; exact k3.none (keys_longer hls hlc)
            refine kda_in (knd := PySem.strKind PR ww) N3 hdE k2 hloE (strKind_is _ _ _ _) false (by rw [hv]; rfl) ?_
            repeat' (first | ((fail_if_success (with_reducible show wpAny _ _ (setItem _ _ _) _ _ _)); first | ((with_reducible show wpAny _ _ (getMethod (Value.str _ _) (Str.ofString "encode") _) _ _ _); k_dflt (refine getMethod_encode ?_)) | ((with_reducible show wpAny _ _ (binaryOp .Add (Value.bytes _ _) (Value.bytes _ _)) _ _ _); k_dflt (refine addL (by first | omega | (simp only [List.length_map, List.length_append, List.length_cons, List.length_nil, List.length_singleton]; omega)) ?_); intro zt zk) | ((with_reducible show wpAny _ _ (call (Value.builtin "len") _) _ _ _); k_dflt (refine lenL (by first | omega | (simp only [List.length_map, List.length_append, List.length_cons, List.length_nil, List.length_singleton]; omega)) ?_); intro zt zk) | ((with_reducible show wpAny _ _ (call (Value.ref 107) _) _ _ _); k_dflt (refine' next_call ?zzB ?zzF ?zzX ?zzN ?zzT ?zzhk ?zzhl ?zzhi ?zzhn ?zzU ?zzh0 ?zzhx0 ?zzhx1 ?zzhk0 ?zzhd ?zzhu ?_; (case zzB => k_asm); (case zzF => k_asm); (case zzX => k_asm); (case zzN => k_asm); (case zzT => k_asm); (case zzhk => exact rfl); (case zzU => k_updF); (case zzhl => k_asm); (case zzhi => k_asm); (case zzhn => k_asm); (case zzh0 => omega); (case zzhx0 => omega); (case zzhx1 => omega); (case zzhk0 => omega); (case zzhd => ktr_room); (case zzhu => ktr_units)); (try clear zb3); (try clear zb4); (try clear zb5); intro zr zu zi zx zti ztx zh ztk zb1 zb2 zb3 zb4 zb5 zF zN; (try dsimp only at zN); (try k_sweep)) | (k_unfold; (try dsimp only)) | walk1 | dsimp only) | fail "no step")
            rename Fr _ _ _ _ => F6
            rename News _ _ _ _ => N6
            rename News _ _ _ ((D5, _) :: _) => gN
            obtain ⟨h5', eh5⟩ := heapName gN
            subst eh5
            have gT := fun p hp => Heap.lt_size (gN p hp).1
            have gE : @LT.lt Nat _ de _ := gT (de, _) (by k_mem)
            have gP : @LT.lt Nat _ dp _ := gT (dp, _) (by k_mem)
            have gL : @LT.lt Nat _ pl _ := gT (pl, _) (by k_mem)
            have gS : @LT.lt Nat _ st _ := gT (st, _) (by k_mem)
            have gC : @LT.lt Nat _ (s1.heap.objs.size + 1) _ := gT (s1.heap.objs.size + 1, _) (by k_mem)
            have gI : @LT.lt Nat _ I _ := gT (I, _) (by k_mem)
            have gI1 : @LT.lt Nat _ I1 _ := gT (I1, _) (by k_mem)
            have gR : @LT.lt Nat _ R2 _ := gT (R2, _) (by k_mem)
            have hkz : (kvE ++ kn).length ≤ sizeLine := by rw [List.length_append, j6.length, k3.length, sizeLine_eq]; simp only [ksOf, List.length_map, List.length_take]; exact Nat.le_trans (Nat.add_le_add heb (Nat.le_trans (Nat.min_le_left _ _) (Nat.le_trans (Nat.le_of_lt hkl) he4))) (by decide)
            refine kda_set (knd := PySem.strKind PR ww) F6 N6 (by k_updF) k2 (strKind_is _ _ _ _) hkz fun h6 o6 F7 N7 hd6 => ?_
            rw [stored_new hv] at hd6
            try dsimp only at N7
            clear F6 N6
            repeat' (first | ((fail_if_success (with_reducible show wpAny _ _ (subscriptTail ..) _ _ _)); first | ((with_reducible show wpAny _ _ (getMethod (Value.str _ _) (Str.ofString "encode") _) _ _ _); k_dflt (refine getMethod_encode ?_)) | ((with_reducible show wpAny _ _ (binaryOp .Add (Value.bytes _ _) (Value.bytes _ _)) _ _ _); k_dflt (refine addL (by first | omega | (simp only [List.length_map, List.length_append, List.length_cons, List.length_nil, List.length_singleton]; omega)) ?_); intro zt zk) | ((with_reducible show wpAny _ _ (call (Value.builtin "len") _) _ _ _); k_dflt (refine lenL (by first | omega | (simp only [List.length_map, List.length_append, List.length_cons, List.length_nil, List.length_singleton]; omega)) ?_); intro zt zk) | ((with_reducible show wpAny _ _ (call (Value.ref 107) _) _ _ _); k_dflt (refine' next_call ?zzB ?zzF ?zzX ?zzN ?zzT ?zzhk ?zzhl ?zzhi ?zzhn ?zzU ?zzh0 ?zzhx0 ?zzhx1 ?zzhk0 ?zzhd ?zzhu ?_; (case zzB => k_asm); (case zzF => k_asm); (case zzX => k_asm); (case zzN => k_asm); (case zzT => k_asm); (case zzhk => exact rfl); (case zzU => k_updF); (case zzhl => k_asm); (case zzhi => k_asm); (case zzhn => k_asm); (case zzh0 => omega); (case zzhx0 => omega); (case zzhx1 => omega); (case zzhk0 => omega); (case zzhd => ktr_room); (case zzhu => ktr_units)); (try clear zb3); (try clear zb4); (try clear zb5); intro zr zu zi zx zti ztx zh ztk zb1 zb2 zb3 zb4 zb5 zF zN; (try dsimp only at zN); (try k_sweep)) | (k_unfold; (try dsimp only)) | walk1 | dsimp only) | fail "no step")
            obtain ⟨lx, lt, w1, w2, w3⟩ := label_at hkl
            have hlx : LabOk lx := hls _ (List.mem_of_getElem? w2)
            have hlx2 := hlx.2.2
            have hsz : (sOf lx).length = lx.length := sOf_len lx
            rename News _ _ _ _ => N6
            refine itemR (vs := strValues e.2.1) (N6.isList (n := e.2.2) (by (repeat (first | exact hme2 | refine List.Mem.tail _ ?_)))) (k_lo k) (k_hi hkl he4) w1 ?_
            repeat' (first | ((fail_if_success (with_reducible show wpAny _ _ (call (Value.builtin "len") _) _ _ _)); first | ((with_reducible show wpAny _ _ (getMethod (Value.str _ _) (Str.ofString "encode") _) _ _ _); k_dflt (refine getMethod_encode ?_)) | ((with_reducible show wpAny _ _ (binaryOp .Add (Value.bytes _ _) (Value.bytes _ _)) _ _ _); k_dflt (refine addL (by first | omega | (simp only [List.length_map, List.length_append, List.length_cons, List.length_nil, List.length_singleton]; omega)) ?_); intro zt zk) | ((with_reducible show wpAny _ _ (call (Value.builtin "len") _) _ _ _); k_dflt (refine lenL (by first | omega | (simp only [List.length_map, List.length_append, List.length_cons, List.length_nil, List.length_singleton]; omega)) ?_); intro zt zk) | ((with_reducible show wpAny _ _ (call (Value.ref 107) _) _ _ _); k_dflt (refine' next_call ?zzB ?zzF ?zzX ?zzN ?zzT ?zzhk ?zzhl ?zzhi ?zzhn ?zzU ?zzh0 ?zzhx0 ?zzhx1 ?zzhk0 ?zzhd ?zzhu ?_; (case zzB => k_asm); (case zzF => k_asm); (case zzX => k_asm); (case zzN => k_asm); (case zzT => k_asm); (case zzhk => exact rfl); (case zzU => k_updF); (case zzhl => k_asm); (case zzhi => k_asm); (case zzhn => k_asm); (case zzh0 => omega); (case zzhx0 => omega); (case zzhx1 => omega); (case zzhk0 => omega); (case zzhd => ktr_room); (case zzhu => ktr_units)); (try clear zb3); (try clear zb4); (try clear zb5); intro zr zu zi zx zti ztx zh ztk zb1 zb2 zb3 zb4 zb5 zF zN; (try dsimp only at zN); (try k_sweep)) | (k_unfold; (try dsimp only)) | walk1 | dsimp only) | fail "no step")
            refine lenS (by omega) fun t8 k8' => ?_
            repeat' (first | ((fail_if_success (with_reducible show wpAny _ _ (call (Value.type "bytes") [Value.ref _]) _ _ _)); first | ((with_reducible show wpAny _ _ (getMethod (Value.str _ _) (Str.ofString "encode") _) _ _ _); k_dflt (refine getMethod_encode ?_)) | ((with_reducible show wpAny _ _ (binaryOp .Add (Value.bytes _ _) (Value.bytes _ _)) _ _ _); k_dflt (refine addL (by first | omega | (simp only [List.length_map, List.length_append, List.length_cons, List.length_nil, List.length_singleton]; omega)) ?_); intro zt zk) | ((with_reducible show wpAny _ _ (call (Value.builtin "len") _) _ _ _); k_dflt (refine lenL (by first | omega | (simp only [List.length_map, List.length_append, List.length_cons, List.length_nil, List.length_singleton]; omega)) ?_); intro zt zk) | ((with_reducible show wpAny _ _ (call (Value.ref 107) _) _ _ _); k_dflt (refine' next_call ?zzB ?zzF ?zzX ?zzN ?zzT ?zzhk ?zzhl ?zzhi ?zzhn ?zzU ?zzh0 ?zzhx0 ?zzhx1 ?zzhk0 ?zzhd ?zzhu ?_; (case zzB => k_asm); (case zzF => k_asm); (case zzX => k_asm); (case zzN => k_asm); (case zzT => k_asm); (case zzhk => exact rfl); (case zzU => k_updF); (case zzhl => k_asm); (case zzhi => k_asm); (case zzhn => k_asm); (case zzh0 => omega); (case zzhx0 => omega); (case zzhx1 => omega); (case zzhk0 => omega); (case zzhd => ktr_room); (case zzhu => ktr_units)); (try clear zb3); (try clear zb4); (try clear zb5); intro zr zu zi zx zti ztx zh ztk zb1 zb2 zb3 zb4 zb5 zF zN; (try dsimp only at zN); (try k_sweep)) | (k_unfold; (try dsimp only)) | walk1 | dsimp only) | fail "no step")
            rename Fr _ _ _ _ => F6
            rename News _ _ _ _ => N6
            refine bytes_K (ns := [((lx.length : Nat) : Int)]) F6 N6 (N6.isList (.head _)) (.cons _ _ .nil) (fun n hn => by rw [List.mem_singleton.mp hn]; exact len_in hlx2) (by simp [sizeLine_eq]) rfl ?_
            intro h10 t10 kk10 F10 N10 _
            rw [show ([((lx.length : Nat) : Int)].map fun n => n.toNat.toUInt8) = [lx.length.toUInt8] from by simp]
            clear F6 N6
            repeat' (first | ((fail_if_success (with_reducible show wpAny _ _ (subscriptTail ..) _ _ _)); first | ((with_reducible show wpAny _ _ (getMethod (Value.str _ _) (Str.ofString "encode") _) _ _ _); k_dflt (refine getMethod_encode ?_)) | ((with_reducible show wpAny _ _ (binaryOp .Add (Value.bytes _ _) (Value.bytes _ _)) _ _ _); k_dflt (refine addL (by first | omega | (simp only [List.length_map, List.length_append, List.length_cons, List.length_nil, List.length_singleton]; omega)) ?_); intro zt zk) | ((with_reducible show wpAny _ _ (call (Value.builtin "len") _) _ _ _); k_dflt (refine lenL (by first | omega | (simp only [List.length_map, List.length_append, List.length_cons, List.length_nil, List.length_singleton]; omega)) ?_); intro zt zk) | ((with_reducible show wpAny _ _ (call (Value.ref 107) _) _ _ _); k_dflt (refine' next_call ?zzB ?zzF ?zzX ?zzN ?zzT ?zzhk ?zzhl ?zzhi ?zzhn ?zzU ?zzh0 ?zzhx0 ?zzhx1 ?zzhk0 ?zzhd ?zzhu ?_; (case zzB => k_asm); (case zzF => k_asm); (case zzX => k_asm); (case zzN => k_asm); (case zzT => k_asm); (case zzhk => exact rfl); (case zzU => k_updF); (case zzhl => k_asm); (case zzhi => k_asm); (case zzhn => k_asm); (case zzh0 => omega); (case zzhx0 => omega); (case zzhx1 => omega); (case zzhk0 => omega); (case zzhd => ktr_room); (case zzhu => ktr_units)); (try clear zb3); (try clear zb4); (try clear zb5); intro zr zu zi zx zti ztx zh ztk zb1 zb2 zb3 zb4 zb5 zF zN; (try dsimp only at zN); (try k_sweep)) | (k_unfold; (try dsimp only)) | walk1 | dsimp only) | fail "no step")
            rename News _ _ _ _ => N6
            refine itemR (vs := strValues e.2.1) (N6.isList (n := e.2.2) (by (repeat (first | exact hme2 | refine List.Mem.tail _ ?_)))) (k_lo k) (k_hi hkl he4) w1 ?_
            repeat' (first | ((fail_if_success (with_reducible show wpAny _ _ (call (Value.builtin "str.encode") _) _ _ _)); first | ((with_reducible show wpAny _ _ (getMethod (Value.str _ _) (Str.ofString "encode") _) _ _ _); k_dflt (refine getMethod_encode ?_)) | ((with_reducible show wpAny _ _ (binaryOp .Add (Value.bytes _ _) (Value.bytes _ _)) _ _ _); k_dflt (refine addL (by first | omega | (simp only [List.length_map, List.length_append, List.length_cons, List.length_nil, List.length_singleton]; omega)) ?_); intro zt zk) | ((with_reducible show wpAny _ _ (call (Value.builtin "len") _) _ _ _); k_dflt (refine lenL (by first | omega | (simp only [List.length_map, List.length_append, List.length_cons, List.length_nil, List.length_singleton]; omega)) ?_); intro zt zk) | ((with_reducible show wpAny _ _ (call (Value.ref 107) _) _ _ _); k_dflt (refine' next_call ?zzB ?zzF ?zzX ?zzN ?zzT ?zzhk ?zzhl ?zzhi ?zzhn ?zzU ?zzh0 ?zzhx0 ?zzhx1 ?zzhk0 ?zzhd ?zzhu ?_; (case zzB => k_asm); (case zzF => k_asm); (case zzX => k_asm); (case zzN => k_asm); (case zzT => k_asm); (case zzhk => exact rfl); (case zzU => k_updF); (case zzhl => k_asm); (case zzhi => k_asm); (case zzhn => k_asm); (case zzh0 => omega); (case zzhx0 => omega); (case zzhx1 => omega); (case zzhk0 => omega); (case zzhd => ktr_room); (case zzhu => ktr_units)); (try clear zb3); (try clear zb4); (try clear zb5); intro zr zu zi zx zti ztx zh ztk zb1 zb2 zb3 zb4 zb5 zF zN; (try dsimp only at zN); (try k_sweep)) | (k_unfold; (try dsimp only)) | walk1 | dsimp only) | fail "no step")
            refine call_encode1 (l := lx) (fun c hc => okCp_lt (List.all_eq_true.mp hlx.1 c hc)) (by omega) fun t11 kk11 => ?_
            have hbl : (bOf lx).length ≤ 54 := by rw [show (bOf lx).length = lx.length from by simp [bOf]]; exact hlx2
            repeat' (first | ((fail_if_success (with_reducible show wpAny _ _ (subscriptTail ..) _ _ _)); first | ((with_reducible show wpAny _ _ (getMethod (Value.str _ _) (Str.ofString "encode") _) _ _ _); k_dflt (refine getMethod_encode ?_)) | ((with_reducible show wpAny _ _ (binaryOp .Add (Value.bytes _ _) (Value.bytes _ _)) _ _ _); k_dflt (refine addL (by first | omega | (simp only [List.length_map, List.length_append, List.length_cons, List.length_nil, List.length_singleton]; omega)) ?_); intro zt zk) | ((with_reducible show wpAny _ _ (call (Value.builtin "len") _) _ _ _); k_dflt (refine lenL (by first | omega | (simp only [List.length_map, List.length_append, List.length_cons, List.length_nil, List.length_singleton]; omega)) ?_); intro zt zk) | ((with_reducible show wpAny _ _ (call (Value.ref 107) _) _ _ _); k_dflt (refine' next_call ?zzB ?zzF ?zzX ?zzN ?zzT ?zzhk ?zzhl ?zzhi ?zzhn ?zzU ?zzh0 ?zzhx0 ?zzhx1 ?zzhk0 ?zzhd ?zzhu ?_; (case zzB => k_asm); (case zzF => k_asm); (case zzX => k_asm); (case zzN => k_asm); (case zzT => k_asm); (case zzhk => exact rfl); (case zzU => k_updF); (case zzhl => k_asm); (case zzhi => k_asm); (case zzhn => k_asm); (case zzh0 => omega); (case zzhx0 => omega); (case zzhx1 => omega); (case zzhk0 => omega); (case zzhd => ktr_room); (case zzhu => ktr_units)); (try clear zb3); (try clear zb4); (try clear zb5); intro zr zu zi zx zti ztx zh ztk zb1 zb2 zb3 zb4 zb5 zF zN; (try dsimp only at zN); (try k_sweep)) | (k_unfold; (try dsimp only)) | walk1 | dsimp only) | fail "no step")
            rename News _ _ _ _ => N6
            refine itemR (vs := strValues e.2.1) (N6.isList (n := e.2.2) (by (repeat (first | exact hme2 | refine List.Mem.tail _ ?_)))) (k_lo k) (k_hi hkl he4) w1 ?_
            repeat' (first | ((fail_if_success (with_reducible show wpAny _ _ (call (Value.builtin "list.append") _) _ _ _)); first | ((with_reducible show wpAny _ _ (getMethod (Value.str _ _) (Str.ofString "encode") _) _ _ _); k_dflt (refine getMethod_encode ?_)) | ((with_reducible show wpAny _ _ (binaryOp .Add (Value.bytes _ _) (Value.bytes _ _)) _ _ _); k_dflt (refine addL (by first | omega | (simp only [List.length_map, List.length_append, List.length_cons, List.length_nil, List.length_singleton]; omega)) ?_); intro zt zk) | ((with_reducible show wpAny _ _ (call (Value.builtin "len") _) _ _ _); k_dflt (refine lenL (by first | omega | (simp only [List.length_map, List.length_append, List.length_cons, List.length_nil, List.length_singleton]; omega)) ?_); intro zt zk) | ((with_reducible show wpAny _ _ (call (Value.ref 107) _) _ _ _); k_dflt (refine' next_call ?zzB ?zzF ?zzX ?zzN ?zzT ?zzhk ?zzhl ?zzhi ?zzhn ?zzU ?zzh0 ?zzhx0 ?zzhx1 ?zzhk0 ?zzhd ?zzhu ?_; (case zzB => k_asm); (case zzF => k_asm); (case zzX => k_asm); (case zzN => k_asm); (case zzT => k_asm); (case zzhk => exact rfl); (case zzU => k_updF); (case zzhl => k_asm); (case zzhi => k_asm); (case zzhn => k_asm); (case zzh0 => omega); (case zzhx0 => omega); (case zzhx1 => omega); (case zzhk0 => omega); (case zzhd => ktr_room); (case zzhu => ktr_units)); (try clear zb3); (try clear zb4); (try clear zb5); intro zr zu zi zx zti ztx zh ztk zb1 zb2 zb3 zb4 zb5 zF zN; (try dsimp only at zN); (try k_sweep)) | (k_unfold; (try dsimp only)) | walk1 | dsimp only) | fail "no step")
            rename Fr _ _ _ _ => F6
            rename News _ _ _ _ => N6
            have hrl : (strValues rd).length ≤ 4 := by
              have := congrArg List.length k5
              rw [cpsOf_length, List.length_take, cpsOf_length] at this
              rw [strValues_length, this]; exact Nat.le_trans (Nat.min_le_right _ _) he4
            obtain ⟨_, _, _, qR, _⟩ := (show @LT.lt Nat _ _ _ ∧ @LT.lt Nat _ D5 _ ∧ @LT.lt Nat _ I1 _ ∧ @LT.lt Nat _ R2 _ ∧ _ from by assumption)
            rw [enc_len] at N6
            obtain ⟨tk7, etk7⟩ := tupName N6
            subst etk7
            refine appR (vs := strValues rd) (n := c) F6 N6 (by k_updF) (by omega) fun h12 F12 N12 => ?_
            clear F6 N6
            try dsimp only at N12
            repeat' (first | ((fail_if_success (with_reducible show Turned ..)); first | ((with_reducible show wpAny _ _ (getMethod (Value.str _ _) (Str.ofString "encode") _) _ _ _); k_dflt (refine getMethod_encode ?_)) | ((with_reducible show wpAny _ _ (binaryOp .Add (Value.bytes _ _) (Value.bytes _ _)) _ _ _); k_dflt (refine addL (by first | omega | (simp only [List.length_map, List.length_append, List.length_cons, List.length_nil, List.length_singleton]; omega)) ?_); intro zt zk) | ((with_reducible show wpAny _ _ (call (Value.builtin "len") _) _ _ _); k_dflt (refine lenL (by first | omega | (simp only [List.length_map, List.length_append, List.length_cons, List.length_nil, List.length_singleton]; omega)) ?_); intro zt zk) | ((with_reducible show wpAny _ _ (call (Value.ref 107) _) _ _ _); k_dflt (refine' next_call ?zzB ?zzF ?zzX ?zzN ?zzT ?zzhk ?zzhl ?zzhi ?zzhn ?zzU ?zzh0 ?zzhx0 ?zzhx1 ?zzhk0 ?zzhd ?zzhu ?_; (case zzB => k_asm); (case zzF => k_asm); (case zzX => k_asm); (case zzN => k_asm); (case zzT => k_asm); (case zzhk => exact rfl); (case zzU => k_updF); (case zzhl => k_asm); (case zzhi => k_asm); (case zzhn => k_asm); (case zzh0 => omega); (case zzhx0 => omega); (case zzhx1 => omega); (case zzhk0 => omega); (case zzhd => ktr_room); (case zzhu => ktr_units)); (try clear zb3); (try clear zb4); (try clear zb5); intro zr zu zi zx zti ztx zh ztk zb1 zb2 zb3 zb4 zb5 zF zN; (try dsimp only at zN); (try k_sweep)) | (k_unfold; (try dsimp only)) | walk1 | dsimp only) | fail "no step")
            rename Fr _ _ _ _ => F6
            rename News _ _ _ _ => N6
            rw [show strValues rd ++ [Value.str (sOf lx) lt] = strValues (rd ++ [(sOf lx, lt)]) from by simp [strValues]] at N6
            obtain ⟨y1, y2⟩ := walk_next k4 hlc v2
            have z1 : (cpsOf e.2.1).take (k + 1) = (cpsOf e.2.1).take k ++ [lx] := take_next w2
            have N10 : News s1.heap s1.heap.objs.size _ ((I1, oI1) :: (R2, listOf (strValues (rd ++ [(sOf lx, lt)])).toArray (c + 1)) :: (de, o6) :: (dp, odP2) :: (pl, listOf lp.toArray cp) :: (st, stObj sc i' ti x' tx) :: (s1.heap.objs.size + 1, oce) :: (I, oI) :: (h5'.objs.size, tupN (buf.length + sumL ((cpsOf e.2.1).take k)) tk7) :: tl2) := News.sub N6 (fun q hq => by
              rcases List.mem_cons.mp hq with rfl | hq
              · k_mem
              rcases List.mem_cons.mp hq with rfl | hq
              · k_mem
              rcases List.mem_cons.mp hq with rfl | hq
              · k_mem
              rcases List.mem_cons.mp hq with rfl | hq
              · k_mem
              rcases List.mem_cons.mp hq with rfl | hq
              · k_mem
              rcases List.mem_cons.mp hq with rfl | hq
              · k_mem
              rcases List.mem_cons.mp hq with rfl | hq
              · k_mem
              rcases List.mem_cons.mp hq with rfl | hq
              · k_mem
              rcases List.mem_cons.mp hq with rfl | hq
              · exact .tail _ (.head _)
              · exact .tail _ (.tail _ (.tail _ (.tail _ (.tail _ (.tail _ (.tail _ (.tail _ (.tail _ (.tail _ (.tail _ hq)))))))))))
            have z2 : (((cpsOf e.2.1).take (k + 1)).map encL).flatten = (((cpsOf e.2.1).take k).map encL).flatten ++ [lx.length.toUInt8] ++ bOf lx := by rw [z1]; simp [encL]
            refine ⟨_, _, _, _, rfl, F6, N10, rd ++ [(sOf lx, lt)], R2, c + 1, kn ++ [(sOf (keyS ((cpsOf e.2.1).drop k)), .ref h5'.objs.size)], o6, _, (h5'.objs.size, tupN (buf.length + sumL ((cpsOf e.2.1).take k)) tk7) :: tl2, ⟨by rw [z2]; exact rfl, rfl, rfl, rfl, rfl, rfl, rfl, rfl, rfl⟩, rfl, by rw [← List.append_assoc]; exact hd6, by rw [y2]; exact (k3.mono (fun p hp => .tail _ hp)).append (.cons (.head _) .nil), y1, by rw [cpsOf_append, k5, z1]; rfl, fun p hp => .tail _ (k7 p hp), k8.cons gE, k9.cons gP, k10.cons gL, k11.cons gS, k12.cons gC, k13.cons gI, k14.cons gI1, k14'.cons gR, by omega, by omega, by omega, by omega, by omega, by omega, by omega⟩
          · have hv : valueAt (kvE ++ kn) (sOf (keyS ((cpsOf e.2.1).drop k))) = some (.ref T) := valueAt_app_some v1
            refine kda_in (knd := PySem.strKind PR ww) N3 hdE k2 hloE (strKind_is _ _ _ _) true (by rw [hv]; rfl) ?_
            repeat' (first | ((fail_if_success (with_reducible show wpAny _ _ (subscriptTail ..) _ _ _)); first | ((with_reducible show wpAny _ _ (getMethod (Value.str _ _) (Str.ofString "encode") _) _ _ _); k_dflt (refine getMethod_encode ?_)) | ((with_reducible show wpAny _ _ (binaryOp .Add (Value.bytes _ _) (Value.bytes _ _)) _ _ _); k_dflt (refine addL (by first | omega | (simp only [List.length_map, List.length_append, List.length_cons, List.length_nil, List.length_singleton]; omega)) ?_); intro zt zk) | ((with_reducible show wpAny _ _ (call (Value.builtin "len") _) _ _ _); k_dflt (refine lenL (by first | omega | (simp only [List.length_map, List.length_append, List.length_cons, List.length_nil, List.length_singleton]; omega)) ?_); intro zt zk) | ((with_reducible show wpAny _ _ (call (Value.ref 107) _) _ _ _); k_dflt (refine' next_call ?zzB ?zzF ?zzX ?zzN ?zzT ?zzhk ?zzhl ?zzhi ?zzhn ?zzU ?zzh0 ?zzhx0 ?zzhx1 ?zzhk0 ?zzhd ?zzhu ?_; (case zzB => k_asm); (case zzF => k_asm); (case zzX => k_asm); (case zzN => k_asm); (case zzT => k_asm); (case zzhk => exact rfl); (case zzU => k_updF); (case zzhl => k_asm); (case zzhi => k_asm); (case zzhn => k_asm); (case zzh0 => omega); (case zzhx0 => omega); (case zzhx1 => omega); (case zzhk0 => omega); (case zzhd => ktr_room); (case zzhu => ktr_units)); (try clear zb3); (try clear zb4); (try clear zb5); intro zr zu zi zx zti ztx zh ztk zb1 zb2 zb3 zb4 zb5 zF zN; (try dsimp only at zN); (try k_sweep)) | (k_unfold; (try dsimp only)) | walk1 | dsimp only) | fail "no step")
            refine kda_item (knd := PySem.strKind PR ww) N3 hdE k2 (strKind_is _ _ _ _) hv ?_
            repeat' (first | ((fail_if_success (with_reducible show wpAny _ _ (assign (PySem.Expr.Tuple ..) _ _) _ _ _)); first | ((with_reducible show wpAny _ _ (getMethod (Value.str _ _) (Str.ofString "encode") _) _ _ _); k_dflt (refine getMethod_encode ?_)) | ((with_reducible show wpAny _ _ (binaryOp .Add (Value.bytes _ _) (Value.bytes _ _)) _ _ _); k_dflt (refine addL (by first | omega | (simp only [List.length_map, List.length_append, List.length_cons, List.length_nil, List.length_singleton]; omega)) ?_); intro zt zk) | ((with_reducible show wpAny _ _ (call (Value.builtin "len") _) _ _ _); k_dflt (refine lenL (by first | omega | (simp only [List.length_map, List.length_append, List.length_cons, List.length_nil, List.length_singleton]; omega)) ?_); intro zt zk) | ((with_reducible show wpAny _ _ (call (Value.ref 107) _) _ _ _); k_dflt (refine' next_call ?zzB ?zzF ?zzX ?zzN ?zzT ?zzhk ?zzhl ?zzhi ?zzhn ?zzU ?zzh0 ?zzhx0 ?zzhx1 ?zzhk0 ?zzhd ?zzhu ?_; (case zzB => k_asm); (case zzF => k_asm); (case zzX => k_asm); (case zzN => k_asm); (case zzT => k_asm); (case zzhk => exact rfl); (case zzU => k_updF); (case zzhl => k_asm); (case zzhi => k_asm); (case zzhn => k_asm); (case zzh0 => omega); (case zzhx0 => omega); (case zzhx1 => omega); (case zzhk0 => omega); (case zzhd => ktr_room); (case zzhu => ktr_units)); (try clear zb3); (try clear zb4); (try clear zb5); intro zr zu zi zx zti ztx zh ztk zb1 zb2 zb3 zb4 zb5 zF zN; (try dsimp only at zN); (try k_sweep)) | (k_unfold; (try dsimp only)) | walk1 | dsimp only) | fail "no step")
            rename Fr _ _ _ _ => F6
            rename News _ _ _ _ => N6
            have hTm := k7 _ v3
            have hRm := k7 _ v4
            have hp16 : p < 16384 := (j10.rd _ (look_mem v2)).2.2.2.2.1
            refine assign_two rfl rfl rfl rfl rfl F6 N6 (by (repeat (first | exact hTm | refine List.Mem.tail _ ?_))) fun h9 kk9 F9 N9 => ?_
            clear F6 N6
            repeat' (first | ((fail_if_success (with_reducible show wpAny _ _ (call (Value.type "bytes") [Value.ref _]) _ _ _)); first | ((with_reducible show wpAny _ _ (getMethod (Value.str _ _) (Str.ofString "encode") _) _ _ _); k_dflt (refine getMethod_encode ?_)) | ((with_reducible show wpAny _ _ (binaryOp .Add (Value.bytes _ _) (Value.bytes _ _)) _ _ _); k_dflt (refine addL (by first | omega | (simp only [List.length_map, List.length_append, List.length_cons, List.length_nil, List.length_singleton]; omega)) ?_); intro zt zk) | ((with_reducible show wpAny _ _ (call (Value.builtin "len") _) _ _ _); k_dflt (refine lenL (by first | omega | (simp only [List.length_map, List.length_append, List.length_cons, List.length_nil, List.length_singleton]; omega)) ?_); intro zt zk) | ((with_reducible show wpAny _ _ (call (Value.ref 107) _) _ _ _); k_dflt (refine' next_call ?zzB ?zzF ?zzX ?zzN ?zzT ?zzhk ?zzhl ?zzhi ?zzhn ?zzU ?zzh0 ?zzhx0 ?zzhx1 ?zzhk0 ?zzhd ?zzhu ?_; (case zzB => k_asm); (case zzF => k_asm); (case zzX => k_asm); (case zzN => k_asm); (case zzT => k_asm); (case zzhk => exact rfl); (case zzU => k_updF); (case zzhl => k_asm); (case zzhi => k_asm); (case zzhn => k_asm); (case zzh0 => omega); (case zzhx0 => omega); (case zzhx1 => omega); (case zzhk0 => omega); (case zzhd => ktr_room); (case zzhu => ktr_units)); (try clear zb3); (try clear zb4); (try clear zb5); intro zr zu zi zx zti ztx zh ztk zb1 zb2 zb3 zb4 zb5 zF zN; (try dsimp only at zN); (try k_sweep)) | (k_unfold; (try dsimp only)) | walk1 | dsimp only) | fail "no step")
            rename Fr _ _ _ _ => F6
            rename News _ _ _ _ => N6
            refine bytes_K (ns := [192 + ((p : Nat) : Int).fdiv 256, ((p : Nat) : Int).fmod 256]) F6 N6 (N6.isList (.head _)) (.cons _ _ (.cons _ _ .nil)) (ptr_in hp16) (by simp [sizeLine_eq]) rfl ?_
            intro h10 t10 kk10 F10 N10 _
            rw [ptr_map hp16]
            clear F6 N6
            repeat' (first | ((fail_if_success (with_reducible show wpAny _ _ (binaryOp .Add (Value.ref _) _) _ _ _)); first | ((with_reducible show wpAny _ _ (getMethod (Value.str _ _) (Str.ofString "encode") _) _ _ _); k_dflt (refine getMethod_encode ?_)) | ((with_reducible show wpAny _ _ (binaryOp .Add (Value.bytes _ _) (Value.bytes _ _)) _ _ _); k_dflt (refine addL (by first | omega | (simp only [List.length_map, List.length_append, List.length_cons, List.length_nil, List.length_singleton]; omega)) ?_); intro zt zk) | ((with_reducible show wpAny _ _ (call (Value.builtin "len") _) _ _ _); k_dflt (refine lenL (by first | omega | (simp only [List.length_map, List.length_append, List.length_cons, List.length_nil, List.length_singleton]; omega)) ?_); intro zt zk) | ((with_reducible show wpAny _ _ (call (Value.ref 107) _) _ _ _); k_dflt (refine' next_call ?zzB ?zzF ?zzX ?zzN ?zzT ?zzhk ?zzhl ?zzhi ?zzhn ?zzU ?zzh0 ?zzhx0 ?zzhx1 ?zzhk0 ?zzhd ?zzhu ?_; (case zzB => k_asm); (case zzF => k_asm); (case zzX => k_asm); (case zzN => k_asm); (case zzT => k_asm); (case zzhk => exact rfl); (case zzU => k_updF); (case zzhl => k_asm); (case zzhi => k_asm); (case zzhn => k_asm); (case zzh0 => omega); (case zzhx0 => omega); (case zzhx1 => omega); (case zzhk0 => omega); (case zzhd => ktr_room); (case zzhu => ktr_units)); (try clear zb3); (try clear zb4); (try clear zb5); intro zr zu zi zx zti ztx zh ztk zb1 zb2 zb3 zb4 zb5 zF zN; (try dsimp only at zN); (try k_sweep)) | (k_unfold; (try dsimp only)) | walk1 | dsimp only) | fail "no step")
            rename Fr _ _ _ _ => F6
            rename News _ _ _ _ => N6
            have hsz2 : (strValues rd).toArray.toList.length + (strValues rest).toArray.toList.length ≤ sizeLine := by
              have q1 := congrArg List.length k5
              rw [cpsOf_length, List.length_take, cpsOf_length] at q1
              have q2 := rest_sum j10 (fun q => by have := congrArg List.length q; rw [List.length_drop] at this; exact absurd this (Nat.sub_ne_zero_of_lt hlc)) v2
              have q3 := len_sum (cpsOf rest)
              rw [cpsOf_length] at q3
              have q4 := sum_drop (k := k) hsum
              rw [sizeLine_eq]
              simp only [strValues_length, List.toList_toArray]
              have a1 : rd.length ≤ 4 := by rw [q1]; exact Nat.le_trans (Nat.min_le_right _ _) he4
              have a2 : rest.length ≤ 220 := Nat.le_trans q3 (by rw [q2]; exact q4)
              exact Nat.le_trans (Nat.add_le_add a1 a2) (by decide)
            refine kmk_add_lit F6 N6 (its := (strValues rd).toArray) (its2 := (strValues rest).toArray) (N6.isList (n := c) (by k_mem)) (N6.isList (n := cr) (by (repeat (first | exact hRm | refine List.Mem.tail _ ?_)))) (zs := strValues (rd ++ rest)) (by rw [strValues_append]) (fun D9 h9 F9 N9 l9 => ?_) hsz2
            clear F6 N6
            repeat' (first | ((fail_if_success (with_reducible show Turned ..)); first | ((with_reducible show wpAny _ _ (getMethod (Value.str _ _) (Str.ofString "encode") _) _ _ _); k_dflt (refine getMethod_encode ?_)) | ((with_reducible show wpAny _ _ (binaryOp .Add (Value.bytes _ _) (Value.bytes _ _)) _ _ _); k_dflt (refine addL (by first | omega | (simp only [List.length_map, List.length_append, List.length_cons, List.length_nil, List.length_singleton]; omega)) ?_); intro zt zk) | ((with_reducible show wpAny _ _ (call (Value.builtin "len") _) _ _ _); k_dflt (refine lenL (by first | omega | (simp only [List.length_map, List.length_append, List.length_cons, List.length_nil, List.length_singleton]; omega)) ?_); intro zt zk) | ((with_reducible show wpAny _ _ (call (Value.ref 107) _) _ _ _); k_dflt (refine' next_call ?zzB ?zzF ?zzX ?zzN ?zzT ?zzhk ?zzhl ?zzhi ?zzhn ?zzU ?zzh0 ?zzhx0 ?zzhx1 ?zzhk0 ?zzhd ?zzhu ?_; (case zzB => k_asm); (case zzF => k_asm); (case zzX => k_asm); (case zzN => k_asm); (case zzT => k_asm); (case zzhk => exact rfl); (case zzU => k_updF); (case zzhl => k_asm); (case zzhi => k_asm); (case zzhn => k_asm); (case zzh0 => omega); (case zzhx0 => omega); (case zzhx1 => omega); (case zzhk0 => omega); (case zzhd => ktr_room); (case zzhu => ktr_units)); (try clear zb3); (try clear zb4); (try clear zb5); intro zr zu zi zx zti ztx zh ztk zb1 zb2 zb3 zb4 zb5 zF zN; (try dsimp only at zN); (try k_sweep)) | (k_unfold; (try dsimp only)) | walk1 | dsimp only) | fail "no step")
            rename Fr _ _ _ _ => F6
            rename News _ _ _ _ => N6
            obtain ⟨w1, w2, w3, w4⟩ := walk_stop k4 hlc v2
            have d1 : @LT.lt Nat _ de D9 := l9 (de, _) (by k_mem)
            have d2 : @LT.lt Nat _ dp D9 := l9 (dp, _) (by k_mem)
            have d3 : @LT.lt Nat _ pl D9 := l9 (pl, _) (by k_mem)
            have d4 : @LT.lt Nat _ st D9 := l9 (st, _) (by k_mem)
            have d7 : @LT.lt Nat _ (s1.heap.objs.size + 1) D9 := l9 (s1.heap.objs.size + 1, _) (by k_mem)
            have d5 : @LT.lt Nat _ I D9 := l9 (I, _) (by k_mem)
            have d6 : Off tl2 D9 := off_allLt fun q hq => l9 q (by (repeat (first | exact hq | refine List.Mem.tail _ ?_)))
            refine ⟨rfl, _, _, _, rd ++ rest, D9, 0, kn, odE2, _, tl2, rfl, F6, News.sub N6 (by intro q hq; simp only [List.mem_cons] at hq ⊢; rcases hq with hq | hq | hq | hq | hq | hq | hq | hq <;> simp [hq]), ⟨by rw [w2]; exact rfl, rfl, by rw [w4]; exact rfl, rfl, rfl, rfl, rfl, rfl, rfl⟩, k2, by rw [w1, List.take_length] at k3; exact k3, by rw [cpsOf_append, w3, k5], k7, k8, k9, k10, k11, k12, k13, d6, by omega, by omega, by omega, by omega, by omega, by omega⟩
        · intro m₂ news₂ h2 tk2 hJ2 F1 N1
          obtain ⟨rd, R2, c, kn, odE2, td, tl2, k1, rfl, k2, k3, k4, k5, k7, k8, k9, k10, k11, k12, k13, k14, k14', k15, k16, k17, k18, k19, k20, k21⟩ := hJ2
          have hnn : Int.toNat ((e.2.1.length : Nat) : Int) = (cpsOf e.2.1).length := by rw [cpsOf_length]; simp
          rw [hnn, List.take_length] at k1 k5
          rw [hnn] at k3 k4
          obtain ⟨a1, a2, a3, a4⟩ := walk_all k4
          rw [← a4, List.take_length] at k3
          rw [k1.nest] at F1
          have hdu : (((cpsOf e.2.1).map encL).flatten).length ≤ 220 := by rw [enc_len]; exact hsum
          clear F5 N5 N6 hr5 hI1
          try dsimp only
          repeat' (first | ((fail_if_success (with_reducible show In1Q ..)); first | ((with_reducible show wpAny _ _ (getMethod (Value.str _ _) (Str.ofString "encode") _) _ _ _); k_dflt (refine getMethod_encode ?_)) | ((with_reducible show wpAny _ _ (binaryOp .Add (Value.bytes _ _) (Value.bytes _ _)) _ _ _); k_dflt (refine addL (by first | omega | (simp only [List.length_map, List.length_append, List.length_cons, List.length_nil, List.length_singleton]; omega)) ?_); intro zt zk) | ((with_reducible show wpAny _ _ (call (Value.builtin "len") _) _ _ _); k_dflt (refine lenL (by first | omega | (simp only [List.length_map, List.length_append, List.length_cons, List.length_nil, List.length_singleton]; omega)) ?_); intro zt zk) | ((with_reducible show wpAny _ _ (call (Value.ref 107) _) _ _ _); k_dflt (refine' next_call ?zzB ?zzF ?zzX ?zzN ?zzT ?zzhk ?zzhl ?zzhi ?zzhn ?zzU ?zzh0 ?zzhx0 ?zzhx1 ?zzhk0 ?zzhd ?zzhu ?_; (case zzB => k_asm); (case zzF => k_asm); (case zzX => k_asm); (case zzN => k_asm); (case zzT => k_asm); (case zzhk => exact rfl); (case zzU => k_updF); (case zzhl => k_asm); (case zzhi => k_asm); (case zzhn => k_asm); (case zzh0 => omega); (case zzhx0 => omega); (case zzhx1 => omega); (case zzhk0 => omega); (case zzhd => ktr_room); (case zzhu => ktr_units)); (try clear zb3); (try clear zb4); (try clear zb5); intro zr zu zi zx zti ztx zh ztk zb1 zb2 zb3 zb4 zb5 zF zN; (try dsimp only at zN); (try k_sweep)) | (k_unfold; (try dsimp only)) | walk1 | dsimp only) | fail "no step")
          rename Fr _ _ _ _ => F6
          rename News _ _ _ _ => N6
          refine ⟨rfl, _, _, _, rd, R2, c, kn, odE2, _, tl2, rfl, F6, News.sub N6 (by intro q hq; simp only [List.mem_cons] at hq ⊢; rcases hq with hq | hq | hq | hq | hq | hq | hq | hq <;> simp [hq]), ⟨by rw [a1]; exact rfl, rfl, by rw [a3]; exact rfl, rfl, rfl, rfl, rfl, rfl, rfl⟩, k2, k3, by rw [k5, a2], k7, k8, k9, k10, k11, k12, k13, k14', by omega, by omega, by omega, by omega, by omega, by omega⟩
      · intro f s2 hq
        obtain ⟨rfl, h2, tk2, m2, rd, R2, c, kn, odE2, td, tl2, rfl, F1, N1, k1, k2, k3, k5, k7, k8, k9, k10, k11, k12, k13, k14, k15, k16, k17, k18, k19, k20⟩ := hq
        rw [k1.nest] at F1
        clear F4 N4
        try dsimp only
        repeat' (first | ((fail_if_success (with_reducible show wpAny _ _ (exec (Stmt.For ..) _) _ _ _)); (fail_if_success (with_reducible show wpAny _ _ (compareOp ..) _ _ _)); first | ((with_reducible show wpAny _ _ (getMethod (Value.str _ _) (Str.ofString "encode") _) _ _ _); k_dflt (refine getMethod_encode ?_)) | ((with_reducible show wpAny _ _ (binaryOp .Add (Value.bytes _ _) (Value.bytes _ _)) _ _ _); k_dflt (refine addL (by first | omega | (simp only [List.length_map, List.length_append, List.length_cons, List.length_nil, List.length_singleton]; omega)) ?_); intro zt zk) | ((with_reducible show wpAny _ _ (call (Value.builtin "len") _) _ _ _); k_dflt (refine lenL (by first | omega | (simp only [List.length_map, List.length_append, List.length_cons, List.length_nil, List.length_singleton]; omega)) ?_); intro zt zk) | ((with_reducible show wpAny _ _ (call (Value.ref 107) _) _ _ _); k_dflt (refine' next_call ?zzB ?zzF ?zzX ?zzN ?zzT ?zzhk ?zzhl ?zzhi ?zzhn ?zzU ?zzh0 ?zzhx0 ?zzhx1 ?zzhk0 ?zzhd ?zzhu ?_; (case zzB => k_asm); (case zzF => k_asm); (case zzX => k_asm); (case zzN => k_asm); (case zzT => k_asm); (case zzhk => exact rfl); (case zzU => k_updF); (case zzhl => k_asm); (case zzhi => k_asm); (case zzhn => k_asm); (case zzh0 => omega); (case zzhx0 => omega); (case zzhx1 => omega); (case zzhk0 => omega); (case zzhd => ktr_room); (case zzhu => ktr_units)); (try clear zb3); (try clear zb4); (try clear zb5); intro zr zu zi zx zti ztx zh ztk zb1 zb2 zb3 zb4 zb5 zF zN; (try dsimp only at zN); (try k_sweep)) | (k_unfold; (try dsimp only)) | walk1 | dsimp only) | fail "no step")
        refine ne_bytes ?_
        rw [show ((walkX eb (cpsOf e.2.1)).toArray.toList != (walkX eb (cpsOf e.2.1)).toArray.toList) = false from by simp]
        repeat' (first | ((fail_if_success (with_reducible show wpAny _ _ (exec (Stmt.For ..) _) _ _ _)); (fail_if_success (with_reducible show wpAny _ _ (compareOp ..) _ _ _)); first | ((with_reducible show wpAny _ _ (getMethod (Value.str _ _) (Str.ofString "encode") _) _ _ _); k_dflt (refine getMethod_encode ?_)) | ((with_reducible show wpAny _ _ (binaryOp .Add (Value.bytes _ _) (Value.bytes _ _)) _ _ _); k_dflt (refine addL (by first | omega | (simp only [List.length_map, List.length_append, List.length_cons, List.length_nil, List.length_singleton]; omega)) ?_); intro zt zk) | ((with_reducible show wpAny _ _ (call (Value.builtin "len") _) _ _ _); k_dflt (refine lenL (by first | omega | (simp only [List.length_map, List.length_append, List.length_cons, List.length_nil, List.length_singleton]; omega)) ?_); intro zt zk) | ((with_reducible show wpAny _ _ (call (Value.ref 107) _) _ _ _); k_dflt (refine' next_call ?zzB ?zzF ?zzX ?zzN ?zzT ?zzhk ?zzhl ?zzhi ?zzhn ?zzU ?zzh0 ?zzhx0 ?zzhx1 ?zzhk0 ?zzhd ?zzhu ?_; (case zzB => k_asm); (case zzF => k_asm); (case zzX => k_asm); (case zzN => k_asm); (case zzT => k_asm); (case zzhk => exact rfl); (case zzU => k_updF); (case zzhl => k_asm); (case zzhi => k_asm); (case zzhn => k_asm); (case zzh0 => omega); (case zzhx0 => omega); (case zzhx1 => omega); (case zzhk0 => omega); (case zzhd => ktr_room); (case zzhu => ktr_units)); (try clear zb3); (try clear zb4); (try clear zb5); intro zr zu zi zx zti ztx zh ztk zb1 zb2 zb3 zb4 zb5 zF zN; (try dsimp only at zN); (try k_sweep)) | (k_unfold; (try dsimp only)) | walk1 | dsimp only) | fail "no step")
        rename Fr _ _ _ _ => F4
        rename News _ _ _ _ => N4
        refine wpAny_mono (Q := In2Q ww s1 s1.heap s1.heap.objs.size e.2.1 e.1 de dp pl st (s1.heap.objs.size + 1) I R2 odP2 (listOf lp.toArray cp) (stObj sc i' ti x' tx) oce oI (listOf (strValues rd).toArray c) buf eb kvE tl2 (.bytes (List.toArray buf) t1) (.bytes (List.toArray (walkX eb (cpsOf e.2.1))) u3) (.ref dp) (.ref pl) (.ref st) td) (E := fun _ _ => False) ?_ ?_ (fun _ _ h => h.elim)
        · refine wpAny_For ?_
          repeat' (first | ((fail_if_success (with_reducible show wpAny _ _ (call (Value.builtin "len") _) _ _ _)); first | ((with_reducible show wpAny _ _ (getMethod (Value.str _ _) (Str.ofString "encode") _) _ _ _); k_dflt (refine getMethod_encode ?_)) | ((with_reducible show wpAny _ _ (binaryOp .Add (Value.bytes _ _) (Value.bytes _ _)) _ _ _); k_dflt (refine addL (by first | omega | (simp only [List.length_map, List.length_append, List.length_cons, List.length_nil, List.length_singleton]; omega)) ?_); intro zt zk) | ((with_reducible show wpAny _ _ (call (Value.builtin "len") _) _ _ _); k_dflt (refine lenL (by first | omega | (simp only [List.length_map, List.length_append, List.length_cons, List.length_nil, List.length_singleton]; omega)) ?_); intro zt zk) | ((with_reducible show wpAny _ _ (call (Value.ref 107) _) _ _ _); k_dflt (refine' next_call ?zzB ?zzF ?zzX ?zzN ?zzT ?zzhk ?zzhl ?zzhi ?zzhn ?zzU ?zzh0 ?zzhx0 ?zzhx1 ?zzhk0 ?zzhd ?zzhu ?_; (case zzB => k_asm); (case zzF => k_asm); (case zzX => k_asm); (case zzN => k_asm); (case zzT => k_asm); (case zzhk => exact rfl); (case zzU => k_updF); (case zzhl => k_asm); (case zzhi => k_asm); (case zzhn => k_asm); (case zzh0 => omega); (case zzhx0 => omega); (case zzhx1 => omega); (case zzhk0 => omega); (case zzhd => ktr_room); (case zzhu => ktr_units)); (try clear zb3); (try clear zb4); (try clear zb5); intro zr zu zi zx zti ztx zh ztk zb1 zb2 zb3 zb4 zb5 zF zN; (try dsimp only at zN); (try k_sweep)) | (k_unfold; (try dsimp only)) | walk1 | dsimp only) | fail "no step")
          have hme2 := k7 _ hme
          rename News _ _ _ _ => N5
          refine lenR (vs := strValues e.2.1) (N5.isList (n := e.2.2) (by (repeat (first | exact hme2 | refine List.Mem.tail _ ?_)))) (by rw [strValues_length]; omega) fun t5 k5' => ?_
          rw [strValues_length]
          repeat' (first | ((fail_if_success (with_reducible show wpAny _ _ (pyIter _) _ _ _)); first | ((with_reducible show wpAny _ _ (getMethod (Value.str _ _) (Str.ofString "encode") _) _ _ _); k_dflt (refine getMethod_encode ?_)) | ((with_reducible show wpAny _ _ (binaryOp .Add (Value.bytes _ _) (Value.bytes _ _)) _ _ _); k_dflt (refine addL (by first | omega | (simp only [List.length_map, List.length_append, List.length_cons, List.length_nil, List.length_singleton]; omega)) ?_); intro zt zk) | ((with_reducible show wpAny _ _ (call (Value.builtin "len") _) _ _ _); k_dflt (refine lenL (by first | omega | (simp only [List.length_map, List.length_append, List.length_cons, List.length_nil, List.length_singleton]; omega)) ?_); intro zt zk) | ((with_reducible show wpAny _ _ (call (Value.ref 107) _) _ _ _); k_dflt (refine' next_call ?zzB ?zzF ?zzX ?zzN ?zzT ?zzhk ?zzhl ?zzhi ?zzhn ?zzU ?zzh0 ?zzhx0 ?zzhx1 ?zzhk0 ?zzhd ?zzhu ?_; (case zzB => k_asm); (case zzF => k_asm); (case zzX => k_asm); (case zzN => k_asm); (case zzT => k_asm); (case zzhk => exact rfl); (case zzU => k_updF); (case zzhl => k_asm); (case zzhi => k_asm); (case zzhn => k_asm); (case zzh0 => omega); (case zzhx0 => omega); (case zzhx1 => omega); (case zzhk0 => omega); (case zzhd => ktr_room); (case zzhu => ktr_units)); (try clear zb3); (try clear zb4); (try clear zb5); intro zr zu zi zx zti ztx zh ztk zb1 zb2 zb3 zb4 zb5 zF zN; (try dsimp only at zN); (try k_sweep)) | (k_unfold; (try dsimp only)) | walk1 | dsimp only) | fail "no step")
          rename Fr _ _ _ _ => F5
          rename News _ _ _ _ => N5
          rename IsRange _ _ _ _ _ _ _ _ => hr5
          refine for_range (L := s1.heap.objs.size) rfl rfl F5 N5 hr5 (by omega) (by omega) (fun _ _ => rfl) fun I1 hI1 => ⟨In2 ww e.2.1 e.1 de dp pl st (s1.heap.objs.size + 1) I I1 R2 odP2 (listOf lp.toArray cp) (stObj sc i' ti x' tx) oce oI (listOf (strValues rd).toArray c) buf eb kvE tl2 (.bytes (List.toArray buf) t1) (.bytes (List.toArray (walkX eb (cpsOf e.2.1))) u3) (.ref dp) (.ref pl) (.ref st) td, ?_, ?_, ?_, ?_⟩
          all_goals have c1 : @LT.lt Nat _ R2 I1 := hI1 (R2, _) (.head _)
          all_goals have c3 : @LT.lt Nat _ de I1 := hI1 (de, _) (by k_mem)
          all_goals have c2 : Off tl2 I1 := off_allLt fun p hp => hI1 p (by repeat (first | exact hp | refine List.Mem.tail _ ?_))
          · exact ⟨[], kn, odE2, tl2, ⟨rfl, rfl, rfl, rfl, rfl, rfl, rfl, rfl, rfl⟩, rfl, k2, .nil, k3, fun p hp => hp, k8, k9, k10, k11, k12, k13, c2, k14⟩
          · rintro i m news ⟨kd, kr, odE3, tl3, q1, rfl, q2, q3, q4, q5, q6, q7, q8, q9, q10, q11, q12, q13⟩
            refine ⟨fun p hp => (nomatch hp), fun p hp => ?_⟩
            rcases List.mem_cons.mp hp with rfl | hp
            · exact Nat.ne_of_lt c1
            rcases List.mem_cons.mp hp with rfl | hp
            · exact Nat.ne_of_lt c3
            rcases List.mem_cons.mp hp with rfl | hp
            · exact Nat.ne_of_lt (hI1 (dp, _) (by k_mem))
            rcases List.mem_cons.mp hp with rfl | hp
            · exact Nat.ne_of_lt (hI1 (pl, _) (by k_mem))
            rcases List.mem_cons.mp hp with rfl | hp
            · exact Nat.ne_of_lt (hI1 (st, _) (by k_mem))
            rcases List.mem_cons.mp hp with rfl | hp
            · exact Nat.ne_of_lt (hI1 (s1.heap.objs.size + 1, _) (by k_mem))
            rcases List.mem_cons.mp hp with rfl | hp
            · exact Nat.ne_of_lt (hI1 (I, _) (by k_mem))
            · exact q12 p hp
          · rintro k v m₂ news₂ h2 tk2 oI1 hk ⟨tv, rfl⟩ ⟨kd, kr, odE3, tl3, q1, rfl, q2, q3, q4, q5, q6, q7, q8, q9, q10, q11, q12, q13⟩ F1 N1
            clear F5 N5 hr5 hI1
            rw [q1.nest] at F1
            have hkl : k < e.2.1.length := by have : k < (Int.toNat ((e.2.1.length : Nat) : Int)) := hk; simpa using this
            have u1 : ∀ p ∈ tl3, p.1 ≠ de := q6
            have hme3 := q5 _ hme2
            have hdl := cps_ok fun p hp => hel p (List.mem_of_mem_drop (i := k) hp)
            have hds := sum_drop (k := k) hsum
            have hlc : k < (cpsOf e.2.1).length := by rw [cpsOf_length]; exact hkl
            try dsimp only
            repeat' (first | ((fail_if_success (with_reducible show wpAny _ _ (subscriptTail _ (PySem.Expr.Slice ..) _ _) _ _ _)); first | ((with_reducible show wpAny _ _ (getMethod (Value.str _ _) (Str.ofString "encode") _) _ _ _); k_dflt (refine getMethod_encode ?_)) | ((with_reducible show wpAny _ _ (binaryOp .Add (Value.bytes _ _) (Value.bytes _ _)) _ _ _); k_dflt (refine addL (by first | omega | (simp only [List.length_map, List.length_append, List.length_cons, List.length_nil, List.length_singleton]; omega)) ?_); intro zt zk) | ((with_reducible show wpAny _ _ (call (Value.builtin "len") _) _ _ _); k_dflt (refine lenL (by first | omega | (simp only [List.length_map, List.length_append, List.length_cons, List.length_nil, List.length_singleton]; omega)) ?_); intro zt zk) | ((with_reducible show wpAny _ _ (call (Value.ref 107) _) _ _ _); k_dflt (refine' next_call ?zzB ?zzF ?zzX ?zzN ?zzT ?zzhk ?zzhl ?zzhi ?zzhn ?zzU ?zzh0 ?zzhx0 ?zzhx1 ?zzhk0 ?zzhd ?zzhu ?_; (case zzB => k_asm); (case zzF => k_asm); (case zzX => k_asm); (case zzN => k_asm); (case zzT => k_asm); (case zzhk => exact rfl); (case zzU => k_updF); (case zzhl => k_asm); (case zzhi => k_asm); (case zzhn => k_asm); (case zzh0 => omega); (case zzhx0 => omega); (case zzhx1 => omega); (case zzhk0 => omega); (case zzhd => ktr_room); (case zzhu => ktr_units)); (try clear zb3); (try clear zb4); (try clear zb5); intro zr zu zi zx zti ztx zh ztk zb1 zb2 zb3 zb4 zb5 zF zN; (try dsimp only at zN); (try k_sweep)) | (k_unfold; (try dsimp only)) | walk1 | dsimp only) | fail "no step")
            rename Fr _ _ _ _ => F3
            rename News _ _ _ _ => N3
            refine cutR (vs := strValues e.2.1) (zs := strValues (e.2.1.drop k)) F3 N3 (N3.isList (n := e.2.2) (by (repeat (first | exact hme3 | refine List.Mem.tail _ ?_)))) (by constructor) (by constructor) (by rw [strValues_drop]; exact kms_from0 _ _) (fun D5 h5 F5 N5 l5 => ?_) (by with_unfolding_all rfl) (by intro _; with_unfolding_all rfl) (by rw [strValues_length]; omega)
            have g1 : @LT.lt Nat _ de D5 := l5 (de, _) (by k_mem)
            have g2 : @LT.lt Nat _ R2 D5 := l5 (R2, _) (by k_mem)
            have g3 : @LT.lt Nat _ I1 D5 := l5 (I1, _) (by k_mem)
            clear F3 N3
            repeat' (first | ((fail_if_success (with_reducible show wpAny _ _ (call (Value.builtin "str.join") _) _ _ _)); first | ((with_reducible show wpAny _ _ (getMethod (Value.str _ _) (Str.ofString "encode") _) _ _ _); k_dflt (refine getMethod_encode ?_)) | ((with_reducible show wpAny _ _ (binaryOp .Add (Value.bytes _ _) (Value.bytes _ _)) _ _ _); k_dflt (refine addL (by first | omega | (simp only [List.length_map, List.length_append, List.length_cons, List.length_nil, List.length_singleton]; omega)) ?_); intro zt zk) | ((with_reducible show wpAny _ _ (call (Value.builtin "len") _) _ _ _); k_dflt (refine lenL (by first | omega | (simp only [List.length_map, List.length_append, List.length_cons, List.length_nil, List.length_singleton]; omega)) ?_); intro zt zk) | ((with_reducible show wpAny _ _ (call (Value.ref 107) _) _ _ _); k_dflt (refine' next_call ?zzB ?zzF ?zzX ?zzN ?zzT ?zzhk ?zzhl ?zzhi ?zzhn ?zzU ?zzh0 ?zzhx0 ?zzhx1 ?zzhk0 ?zzhd ?zzhu ?_; (case zzB => k_asm); (case zzF => k_asm); (case zzX => k_asm); (case zzN => k_asm); (case zzT => k_asm); (case zzhk => exact rfl); (case zzU => k_updF); (case zzhl => k_asm); (case zzhi => k_asm); (case zzhn => k_asm); (case zzh0 => omega); (case zzhx0 => omega); (case zzhx1 => omega); (case zzhk0 => omega); (case zzhd => ktr_room); (case zzhu => ktr_units)); (try clear zb3); (try clear zb4); (try clear zb5); intro zr zu zi zx zti ztx zh ztk zb1 zb2 zb3 zb4 zb5 zF zN; (try dsimp only at zN); (try k_sweep)) | (k_unfold; (try dsimp only)) | walk1 | dsimp only) | fail "no step")
            rename News _ _ _ _ => N3
            refine call_joinS (l := e.2.1.drop k) (N3.isList (.head _)) (by rw [cpsOf_drop]; omega) fun t2 k2' => ?_
            repeat' (first | ((fail_if_success (with_reducible show wpAny _ _ (call (Value.builtin "str.upper") _) _ _ _)); first | ((with_reducible show wpAny _ _ (getMethod (Value.str _ _) (Str.ofString "encode") _) _ _ _); k_dflt (refine getMethod_encode ?_)) | ((with_reducible show wpAny _ _ (binaryOp .Add (Value.bytes _ _) (Value.bytes _ _)) _ _ _); k_dflt (refine addL (by first | omega | (simp only [List.length_map, List.length_append, List.length_cons, List.length_nil, List.length_singleton]; omega)) ?_); intro zt zk) | ((with_reducible show wpAny _ _ (call (Value.builtin "len") _) _ _ _); k_dflt (refine lenL (by first | omega | (simp only [List.length_map, List.length_append, List.length_cons, List.length_nil, List.length_singleton]; omega)) ?_); intro zt zk) | ((with_reducible show wpAny _ _ (call (Value.ref 107) _) _ _ _); k_dflt (refine' next_call ?zzB ?zzF ?zzX ?zzN ?zzT ?zzhk ?zzhl ?zzhi ?zzhn ?zzU ?zzh0 ?zzhx0 ?zzhx1 ?zzhk0 ?zzhd ?zzhu ?_; (case zzB => k_asm); (case zzF => k_asm); (case zzX => k_asm); (case zzN => k_asm); (case zzT => k_asm); (case zzhk => exact rfl); (case zzU => k_updF); (case zzhl => k_asm); (case zzhi => k_asm); (case zzhn => k_asm); (case zzh0 => omega); (case zzhx0 => omega); (case zzhx1 => omega); (case zzhk0 => omega); (case zzhd => ktr_room); (case zzhu => ktr_units)); (try clear zb3); (try clear zb4); (try clear zb5); intro zr zu zi zx zti ztx zh ztk zb1 zb2 zb3 zb4 zb5 zF zN; (try dsimp only at zN); (try k_sweep)) | (k_unfold; (try dsimp only)) | walk1 | dsimp only) | fail "no step")
            refine call_upS (join_lt hdl) (by have := join_len (ls := cpsOf (e.2.1.drop k)) (by rw [cpsOf_drop]; omega); omega) fun t3 k3' => ?_
            rw [show (joinL [46] (cpsOf (e.2.1.drop k))).map up1 = keyS ((cpsOf e.2.1).drop k) from by rw [cpsOf_drop]; rfl]
            repeat' (first | ((fail_if_success (with_reducible show wpAny _ _ (subscriptTail ..) _ _ _)); first | ((with_reducible show wpAny _ _ (getMethod (Value.str _ _) (Str.ofString "encode") _) _ _ _); k_dflt (refine getMethod_encode ?_)) | ((with_reducible show wpAny _ _ (binaryOp .Add (Value.bytes _ _) (Value.bytes _ _)) _ _ _); k_dflt (refine addL (by first | omega | (simp only [List.length_map, List.length_append, List.length_cons, List.length_nil, List.length_singleton]; omega)) ?_); intro zt zk) | ((with_reducible show wpAny _ _ (call (Value.builtin "len") _) _ _ _); k_dflt (refine lenL (by first | omega | (simp only [List.length_map, List.length_append, List.length_cons, List.length_nil, List.length_singleton]; omega)) ?_); intro zt zk) | ((with_reducible show wpAny _ _ (call (Value.ref 107) _) _ _ _); k_dflt (refine' next_call ?zzB ?zzF ?zzX ?zzN ?zzT ?zzhk ?zzhl ?zzhi ?zzhn ?zzU ?zzh0 ?zzhx0 ?zzhx1 ?zzhk0 ?zzhd ?zzhu ?_; (case zzB => k_asm); (case zzF => k_asm); (case zzX => k_asm); (case zzN => k_asm); (case zzT => k_asm); (case zzhk => exact rfl); (case zzU => k_updF); (case zzhl => k_asm); (case zzhi => k_asm); (case zzhn => k_asm); (case zzh0 => omega); (case zzhx0 => omega); (case zzhx1 => omega); (case zzhk0 => omega); (case zzhd => ktr_room); (case zzhu => ktr_units)); (try clear zb3); (try clear zb4); (try clear zb5); intro zr zu zi zx zti ztx zh ztk zb1 zb2 zb3 zb4 zb5 zF zN; (try dsimp only at zN); (try k_sweep)) | (k_unfold; (try dsimp only)) | walk1 | dsimp only) | fail "no step")
            rename Fr _ _ _ _ => F3
            rename News _ _ _ _ => N3
            have hdE : (de, odE3) ∈ (D5, listOf (strValues (e.2.1.drop k)).toArray 0) :: (I1, oI1) :: (R2, listOf (strValues rd).toArray c) :: (de, odE3) :: (dp, odP2) :: (pl, listOf lp.toArray cp) :: (st, stObj sc i' ti x' tx) :: (s1.heap.objs.size + 1, oce) :: (I, oI) :: tl3 := by k_mem
            by_cases hkn : k < (walkEB eb buf.length (cpsOf e.2.1)).length
            · obtain ⟨n1, n2, n3, pq, n4, n5⟩ := turn_new hls hkn
              rw [n5] at q4
              obtain ⟨T, tp, kr', rfl, m1, m2⟩ := q4.head
              have hvE : valueAt (kvE ++ kd) (sOf (keyS ((cpsOf e.2.1).drop k))) = none := by rw [valueAt_app_none (j6.none (look_none.mp n1))]; exact q3.none n2
              have hv : valueAt (kvE ++ (kd ++ (sOf (keyS ((cpsOf e.2.1).drop k)), .ref T) :: kr')) (sOf (keyS ((cpsOf e.2.1).drop k))) = some (.ref T) := by rw [← List.append_assoc, valueAt_app_none hvE]; simp [valueAt]
              refine kda_item (knd := PySem.strKind PR ww) N3 hdE q2 (strKind_is _ _ _ _) hv ?_
              repeat' (first | ((fail_if_success (with_reducible show wpAny _ _ (subscriptTail ..) _ _ _)); first | ((with_reducible show wpAny _ _ (getMethod (Value.str _ _) (Str.ofString "encode") _) _ _ _); k_dflt (refine getMethod_encode ?_)) | ((with_reducible show wpAny _ _ (binaryOp .Add (Value.bytes _ _) (Value.bytes _ _)) _ _ _); k_dflt (refine addL (by first | omega | (simp only [List.length_map, List.length_append, List.length_cons, List.length_nil, List.length_singleton]; omega)) ?_); intro zt zk) | ((with_reducible show wpAny _ _ (call (Value.builtin "len") _) _ _ _); k_dflt (refine lenL (by first | omega | (simp only [List.length_map, List.length_append, List.length_cons, List.length_nil, List.length_singleton]; omega)) ?_); intro zt zk) | ((with_reducible show wpAny _ _ (call (Value.ref 107) _) _ _ _); k_dflt (refine' next_call ?zzB ?zzF ?zzX ?zzN ?zzT ?zzhk ?zzhl ?zzhi ?zzhn ?zzU ?zzh0 ?zzhx0 ?zzhx1 ?zzhk0 ?zzhd ?zzhu ?_; (case zzB => k_asm); (case zzF => k_asm); (case zzX => k_asm); (case zzN => k_asm); (case zzT => k_asm); (case zzhk => exact rfl); (case zzU => k_updF); (case zzhl => k_asm); (case zzhi => k_asm); (case zzhn => k_asm); (case zzh0 => omega); (case zzhx0 => omega); (case zzhx1 => omega); (case zzhk0 => omega); (case zzhd => ktr_room); (case zzhu => ktr_units)); (try clear zb3); (try clear zb4); (try clear zb5); intro zr zu zi zx zti ztx zh ztk zb1 zb2 zb3 zb4 zb5 zF zN; (try dsimp only at zN); (try k_sweep)) | (k_unfold; (try dsimp only)) | walk1 | dsimp only) | fail "no step")
              rename Fr _ _ _ _ => F6
              rename News _ _ _ _ => N6
              refine tup1 N6 (by (repeat (first | exact m1 | refine List.Mem.tail _ ?_))) ?_
              repeat' (first | ((fail_if_success (with_reducible show wpAny _ _ (subscriptTail ..) _ _ _)); first | ((with_reducible show wpAny _ _ (getMethod (Value.str _ _) (Str.ofString "encode") _) _ _ _); k_dflt (refine getMethod_encode ?_)) | ((with_reducible show wpAny _ _ (binaryOp .Add (Value.bytes _ _) (Value.bytes _ _)) _ _ _); k_dflt (refine addL (by first | omega | (simp only [List.length_map, List.length_append, List.length_cons, List.length_nil, List.length_singleton]; omega)) ?_); intro zt zk) | ((with_reducible show wpAny _ _ (call (Value.builtin "len") _) _ _ _); k_dflt (refine lenL (by first | omega | (simp only [List.length_map, List.length_append, List.length_cons, List.length_nil, List.length_singleton]; omega)) ?_); intro zt zk) | ((with_reducible show wpAny _ _ (call (Value.ref 107) _) _ _ _); k_dflt (refine' next_call ?zzB ?zzF ?zzX ?zzN ?zzT ?zzhk ?zzhl ?zzhi ?zzhn ?zzU ?zzh0 ?zzhx0 ?zzhx1 ?zzhk0 ?zzhd ?zzhu ?_; (case zzB => k_asm); (case zzF => k_asm); (case zzX => k_asm); (case zzN => k_asm); (case zzT => k_asm); (case zzhk => exact rfl); (case zzU => k_updF); (case zzhl => k_asm); (case zzhi => k_asm); (case zzhn => k_asm); (case zzh0 => omega); (case zzhx0 => omega); (case zzhx1 => omega); (case zzhk0 => omega); (case zzhd => ktr_room); (case zzhu => ktr_units)); (try clear zb3); (try clear zb4); (try clear zb5); intro zr zu zi zx zti ztx zh ztk zb1 zb2 zb3 zb4 zb5 zF zN; (try dsimp only at zN); (try k_sweep)) | (k_unfold; (try dsimp only)) | walk1 | dsimp only) | fail "no step")
              rename News _ _ _ _ => N6
              refine kda_item (knd := PySem.strKind PR ww) N6 hdE q2 (strKind_is _ _ _ _) hv ?_
              repeat' (first | ((fail_if_success (with_reducible show wpAny _ _ (subscriptTail ..) _ _ _)); first | ((with_reducible show wpAny _ _ (getMethod (Value.str _ _) (Str.ofString "encode") _) _ _ _); k_dflt (refine getMethod_encode ?_)) | ((with_reducible show wpAny _ _ (binaryOp .Add (Value.bytes _ _) (Value.bytes _ _)) _ _ _); k_dflt (refine addL (by first | omega | (simp only [List.length_map, List.length_append, List.length_cons, List.length_nil, List.length_singleton]; omega)) ?_); intro zt zk) | ((with_reducible show wpAny _ _ (call (Value.builtin "len") _) _ _ _); k_dflt (refine lenL (by first | omega | (simp only [List.length_map, List.length_append, List.length_cons, List.length_nil, List.length_singleton]; omega)) ?_); intro zt zk) | ((with_reducible show wpAny _ _ (call (Value.ref 107) _) _ _ _); k_dflt (refine' next_call ?zzB ?zzF ?zzX ?zzN ?zzT ?zzhk ?zzhl ?zzhi ?zzhn ?zzU ?zzh0 ?zzhx0 ?zzhx1 ?zzhk0 ?zzhd ?zzhu ?_; (case zzB => k_asm); (case zzF => k_asm); (case zzX => k_asm); (case zzN => k_asm); (case zzT => k_asm); (case zzhk => exact rfl); (case zzU => k_updF); (case zzhl => k_asm); (case zzhi => k_asm); (case zzhn => k_asm); (case zzh0 => omega); (case zzhx0 => omega); (case zzhx1 => omega); (case zzhk0 => omega); (case zzhd => ktr_room); (case zzhu => ktr_units)); (try clear zb3); (try clear zb4); (try clear zb5); intro zr zu zi zx zti ztx zh ztk zb1 zb2 zb3 zb4 zb5 zF zN; (try dsimp only at zN); (try k_sweep)) | (k_unfold; (try dsimp only)) | walk1 | dsimp only) | fail "no step")
              rename News _ _ _ _ => N6
              refine tup0 N6 (by (repeat (first | exact m1 | refine List.Mem.tail _ ?_))) ?_
              repeat' (first | ((fail_if_success (with_reducible show wpAny _ _ (subscriptTail _ (PySem.Expr.Slice ..) _ _) _ _ _)); first | ((with_reducible show wpAny _ _ (getMethod (Value.str _ _) (Str.ofString "encode") _) _ _ _); k_dflt (refine getMethod_encode ?_)) | ((with_reducible show wpAny _ _ (binaryOp .Add (Value.bytes _ _) (Value.bytes _ _)) _ _ _); k_dflt (refine addL (by first | omega | (simp only [List.length_map, List.length_append, List.length_cons, List.length_nil, List.length_singleton]; omega)) ?_); intro zt zk) | ((with_reducible show wpAny _ _ (call (Value.builtin "len") _) _ _ _); k_dflt (refine lenL (by first | omega | (simp only [List.length_map, List.length_append, List.length_cons, List.length_nil, List.length_singleton]; omega)) ?_); intro zt zk) | ((with_reducible show wpAny _ _ (call (Value.ref 107) _) _ _ _); k_dflt (refine' next_call ?zzB ?zzF ?zzX ?zzN ?zzT ?zzhk ?zzhl ?zzhi ?zzhn ?zzU ?zzh0 ?zzhx0 ?zzhx1 ?zzhk0 ?zzhd ?zzhu ?_; (case zzB => k_asm); (case zzF => k_asm); (case zzX => k_asm); (case zzN => k_asm); (case zzT => k_asm); (case zzhk => exact rfl); (case zzU => k_updF); (case zzhl => k_asm); (case zzhi => k_asm); (case zzhn => k_asm); (case zzh0 => omega); (case zzhx0 => omega); (case zzhx1 => omega); (case zzhk0 => omega); (case zzhd => ktr_room); (case zzhu => ktr_units)); (try clear zb3); (try clear zb4); (try clear zb5); intro zr zu zi zx zti ztx zh ztk zb1 zb2 zb3 zb4 zb5 zF zN; (try dsimp only at zN); (try k_sweep)) | (k_unfold; (try dsimp only)) | walk1 | dsimp only) | fail "no step")
              rename Fr _ _ _ _ => F6
              rename News _ _ _ _ => N6
              refine cutR (vs := strValues rd) (zs := strValues (rd.drop k)) F6 N6 (N6.isList (n := c) (by k_mem)) (by constructor) (by constructor) (by rw [strValues_drop]; exact kms_from0 _ _) (fun D6 h6 F7 N7 l6 => ?_) (by with_unfolding_all rfl) (by intro _; with_unfolding_all rfl) (by rw [strValues_length]; have z1 := congrArg List.length k5; rw [cpsOf_length] at z1; rw [z1]; exact Nat.le_trans (len_sum _) (by rw [walk_sum j10 hls]; exact Nat.le_trans hsum (by decide)))
              have g4 : @LT.lt Nat _ de D6 := l6 (de, _) (by k_mem)
              clear F6 N6
              repeat' (first | ((fail_if_success (with_reducible show wpAny _ _ (setItem _ _ _) _ _ _)); first | ((with_reducible show wpAny _ _ (getMethod (Value.str _ _) (Str.ofString "encode") _) _ _ _); k_dflt (refine getMethod_encode ?_)) | ((with_reducible show wpAny _ _ (binaryOp .Add (Value.bytes _ _) (Value.bytes _ _)) _ _ _); k_dflt (refine addL (by first | omega | (simp only [List.length_map, List.length_append, List.length_cons, List.length_nil, List.length_singleton]; omega)) ?_); intro zt zk) | ((with_reducible show wpAny _ _ (call (Value.builtin "len") _) _ _ _); k_dflt (refine lenL (by first | omega | (simp only [List.length_map, List.length_append, List.length_cons, List.length_nil, List.length_singleton]; omega)) ?_); intro zt zk) | ((with_reducible show wpAny _ _ (call (Value.ref 107) _) _ _ _); k_dflt (refine' next_call ?zzB ?zzF ?zzX ?zzN ?zzT ?zzhk ?zzhl ?zzhi ?zzhn ?zzU ?zzh0 ?zzhx0 ?zzhx1 ?zzhk0 ?zzhd ?zzhu ?_; (case zzB => k_asm); (case zzF => k_asm); (case zzX => k_asm); (case zzN => k_asm); (case zzT => k_asm); (case zzhk => exact rfl); (case zzU => k_updF); (case zzhl => k_asm); (case zzhi => k_asm); (case zzhn => k_asm); (case zzh0 => omega); (case zzhx0 => omega); (case zzhx1 => omega); (case zzhk0 => omega); (case zzhd => ktr_room); (case zzhu => ktr_units)); (try clear zb3); (try clear zb4); (try clear zb5); intro zr zu zi zx zti ztx zh ztk zb1 zb2 zb3 zb4 zb5 zF zN; (try dsimp only at zN); (try k_sweep)) | (k_unfold; (try dsimp only)) | walk1 | dsimp only) | fail "no step")
              rename Fr _ _ _ _ => F6
              rename News _ _ _ _ => N6
              rename News _ _ _ ((D6, _) :: _) => gN
              have gT := fun p hp => Heap.lt_size (gN p hp).1
              have gE : @LT.lt Nat _ de h6.objs.size := gT (de, _) (by k_mem)
              have gP : @LT.lt Nat _ dp h6.objs.size := gT (dp, _) (by k_mem)
              have gL : @LT.lt Nat _ pl h6.objs.size := gT (pl, _) (by k_mem)
              have gS : @LT.lt Nat _ st h6.objs.size := gT (st, _) (by k_mem)
              have gC : @LT.lt Nat _ (s1.heap.objs.size + 1) h6.objs.size := gT (s1.heap.objs.size + 1, _) (by k_mem)
              have gI : @LT.lt Nat _ I h6.objs.size := gT (I, _) (by k_mem)
              have gI1 : @LT.lt Nat _ I1 h6.objs.size := gT (I1, _) (by k_mem)
              have gR : @LT.lt Nat _ R2 h6.objs.size := gT (R2, _) (by k_mem)
              have dP : @LT.lt Nat _ dp D6 := l6 (dp, _) (by k_mem)
              have dL : @LT.lt Nat _ pl D6 := l6 (pl, _) (by k_mem)
              have dS : @LT.lt Nat _ st D6 := l6 (st, _) (by k_mem)
              have dC : @LT.lt Nat _ (s1.heap.objs.size + 1) D6 := l6 (s1.heap.objs.size + 1, _) (by k_mem)
              have dI : @LT.lt Nat _ I D6 := l6 (I, _) (by k_mem)
              have dI1 : @LT.lt Nat _ I1 D6 := l6 (I1, _) (by k_mem)
              have dR : @LT.lt Nat _ R2 D6 := l6 (R2, _) (by k_mem)
              have hkz : (kvE ++ (kd ++ (sOf (keyS ((cpsOf e.2.1).drop k)), .ref T) :: kr')).length ≤ sizeLine := by
                have z1 := j6.length
                have z2 := q3.length
                have z3 := m2.length
                have z4 := (walkEB_break eb (cpsOf e.2.1) buf.length).1
                rw [cpsOf_length] at z4
                simp only [ksOf, List.length_map, List.length_take, List.length_drop] at z2 z3
                rw [sizeLine_eq, List.length_append, List.length_append, List.length_cons]
                have z5 := Nat.le_trans z4 he4
                have a1 : kvE.length ≤ 20 := by rw [z1]; exact heb
                have a2 : kd.length ≤ 4 := by rw [z2]; exact Nat.le_trans (Nat.min_le_right _ _) z5
                have a3 : kr'.length ≤ 4 := by rw [z3]; exact Nat.le_trans (Nat.sub_le _ _) z5
                exact Nat.le_trans (Nat.add_le_add a1 (Nat.add_le_add a2 (Nat.add_le_add a3 (Nat.le_refl 1)))) (by decide)
              refine kda_set (knd := PySem.strKind PR ww) F6 N6 (by k_updF) q2 (strKind_is _ _ _ _) hkz fun h7 o7 F7 N7 hd7 => ?_
              rw [← List.append_assoc, stored_at (m2.keys n3) hvE] at hd7
              try dsimp only at N7
              clear F6 N6
              repeat' (first | ((fail_if_success (with_reducible show Turned ..)); first | ((with_reducible show wpAny _ _ (getMethod (Value.str _ _) (Str.ofString "encode") _) _ _ _); k_dflt (refine getMethod_encode ?_)) | ((with_reducible show wpAny _ _ (binaryOp .Add (Value.bytes _ _) (Value.bytes _ _)) _ _ _); k_dflt (refine addL (by first | omega | (simp only [List.length_map, List.length_append, List.length_cons, List.length_nil, List.length_singleton]; omega)) ?_); intro zt zk) | ((with_reducible show wpAny _ _ (call (Value.builtin "len") _) _ _ _); k_dflt (refine lenL (by first | omega | (simp only [List.length_map, List.length_append, List.length_cons, List.length_nil, List.length_singleton]; omega)) ?_); intro zt zk) | ((with_reducible show wpAny _ _ (call (Value.ref 107) _) _ _ _); k_dflt (refine' next_call ?zzB ?zzF ?zzX ?zzN ?zzT ?zzhk ?zzhl ?zzhi ?zzhn ?zzU ?zzh0 ?zzhx0 ?zzhx1 ?zzhk0 ?zzhd ?zzhu ?_; (case zzB => k_asm); (case zzF => k_asm); (case zzX => k_asm); (case zzN => k_asm); (case zzT => k_asm); (case zzhk => exact rfl); (case zzU => k_updF); (case zzhl => k_asm); (case zzhi => k_asm); (case zzhn => k_asm); (case zzh0 => omega); (case zzhx0 => omega); (case zzhx1 => omega); (case zzhk0 => omega); (case zzhd => ktr_room); (case zzhu => ktr_units)); (try clear zb3); (try clear zb4); (try clear zb5); intro zr zu zi zx zti ztx zh ztk zb1 zb2 zb3 zb4 zb5 zF zN; (try dsimp only at zN); (try k_sweep)) | (k_unfold; (try dsimp only)) | walk1 | dsimp only) | fail "no step")
              rename Fr _ _ _ _ => F6
              rename News _ _ _ _ => N6
              have N10 : News s1.heap s1.heap.objs.size _ ((I1, oI1) :: (R2, listOf (strValues rd).toArray c) :: (de, o7) :: (dp, odP2) :: (pl, listOf lp.toArray cp) :: (st, stObj sc i' ti x' tx) :: (s1.heap.objs.size + 1, oce) :: (I, oI) :: (h6.objs.size, tupE pq tp D6) :: (D6, listOf (strValues (rd.drop k)).toArray 0) :: tl3) := News.sub N6 (fun q hq => by
                rcases List.mem_cons.mp hq with rfl | hq
                · k_mem
                rcases List.mem_cons.mp hq with rfl | hq
                · k_mem
                rcases List.mem_cons.mp hq with rfl | hq
                · k_mem
                rcases List.mem_cons.mp hq with rfl | hq
                · k_mem
                rcases List.mem_cons.mp hq with rfl | hq
                · k_mem
                rcases List.mem_cons.mp hq with rfl | hq
                · k_mem
                rcases List.mem_cons.mp hq with rfl | hq
                · k_mem
                rcases List.mem_cons.mp hq with rfl | hq
                · k_mem
                rcases List.mem_cons.mp hq with rfl | hq
                · exact .head _
                rcases List.mem_cons.mp hq with rfl | hq
                · exact .tail _ (.head _)
                · exact .tail _ (.tail _ (.tail _ (.tail _ (.tail _ (.tail _ (.tail _ (.tail _ (.tail _ (.tail _ (.tail _ hq)))))))))))
              have hcd : cpsOf (rd.drop k) = (walkT eb (cpsOf e.2.1)).drop k := by rw [cpsOf_drop, k5]
              exact ⟨_, _, _, _, rfl, F6, N10, kd ++ [(sOf (keyS ((cpsOf e.2.1).drop k)), .ref h6.objs.size)], kr', o7, (h6.objs.size, tupE pq tp D6) :: (D6, listOf (strValues (rd.drop k)).toArray 0) :: tl3, ⟨rfl, rfl, rfl, rfl, rfl, rfl, rfl, rfl, rfl⟩, rfl, by simpa using hd7, by rw [take_next n4, ← hcd]; exact (q3.mono (fun p hp => .tail _ (.tail _ hp))).append (.cons (.head _) (.tail _ (.head _)) .nil), m2.mono (fun p hp => .tail _ (.tail _ hp)), fun p hp => .tail _ (.tail _ (q5 p hp)), Off.cons gE (Off.cons g4 q6), Off.cons gP (Off.cons dP q7), Off.cons gL (Off.cons dL q8), Off.cons gS (Off.cons dS q9), Off.cons gC (Off.cons dC q10), Off.cons gI (Off.cons dI q11), Off.cons gI1 (Off.cons dI1 q12), Off.cons gR (Off.cons dR q13)⟩
            · obtain ⟨yy, hyy⟩ := turn_old j10 hls hkn hlc
              rcases j6.look (keyS ((cpsOf e.2.1).drop k)) with ⟨v1, v2⟩ | ⟨T, Rr, p, cr, tp, rest, v1, v2, v3, v4⟩
              · rw [v2] at hyy; cases hyy
              have hv : valueAt (kvE ++ (kd ++ kr)) (sOf (keyS ((cpsOf e.2.1).drop k))) = some (.ref T) := valueAt_app_some v1
              refine kda_item (knd := PySem.strKind PR ww) N3 hdE q2 (strKind_is _ _ _ _) hv ?_
              have hTm := q5 _ (k7 _ v3)
              repeat' (first | ((fail_if_success (with_reducible show wpAny _ _ (subscriptTail ..) _ _ _)); first | ((with_reducible show wpAny _ _ (getMethod (Value.str _ _) (Str.ofString "encode") _) _ _ _); k_dflt (refine getMethod_encode ?_)) | ((with_reducible show wpAny _ _ (binaryOp .Add (Value.bytes _ _) (Value.bytes _ _)) _ _ _); k_dflt (refine addL (by first | omega | (simp only [List.length_map, List.length_append, List.length_cons, List.length_nil, List.length_singleton]; omega)) ?_); intro zt zk) | ((with_reducible show wpAny _ _ (call (Value.builtin "len") _) _ _ _); k_dflt (refine lenL (by first | omega | (simp only [List.length_map, List.length_append, List.length_cons, List.length_nil, List.length_singleton]; omega)) ?_); intro zt zk) | ((with_reducible show wpAny _ _ (call (Value.ref 107) _) _ _ _); k_dflt (refine' next_call ?zzB ?zzF ?zzX ?zzN ?zzT ?zzhk ?zzhl ?zzhi ?zzhn ?zzU ?zzh0 ?zzhx0 ?zzhx1 ?zzhk0 ?zzhd ?zzhu ?_; (case zzB => k_asm); (case zzF => k_asm); (case zzX => k_asm); (case zzN => k_asm); (case zzT => k_asm); (case zzhk => exact rfl); (case zzU => k_updF); (case zzhl => k_asm); (case zzhi => k_asm); (case zzhn => k_asm); (case zzh0 => omega); (case zzhx0 => omega); (case zzhx1 => omega); (case zzhk0 => omega); (case zzhd => ktr_room); (case zzhu => ktr_units)); (try clear zb3); (try clear zb4); (try clear zb5); intro zr zu zi zx zti ztx zh ztk zb1 zb2 zb3 zb4 zb5 zF zN; (try dsimp only at zN); (try k_sweep)) | (k_unfold; (try dsimp only)) | walk1 | dsimp only) | fail "no step")
              rename Fr _ _ _ _ => F6
              rename News _ _ _ _ => N6
              refine tup1 N6 (by (repeat (first | exact hTm | refine List.Mem.tail _ ?_))) ?_
              repeat' (first | ((fail_if_success (with_reducible show Turned ..)); first | ((with_reducible show wpAny _ _ (getMethod (Value.str _ _) (Str.ofString "encode") _) _ _ _); k_dflt (refine getMethod_encode ?_)) | ((with_reducible show wpAny _ _ (binaryOp .Add (Value.bytes _ _) (Value.bytes _ _)) _ _ _); k_dflt (refine addL (by first | omega | (simp only [List.length_map, List.length_append, List.length_cons, List.length_nil, List.length_singleton]; omega)) ?_); intro zt zk) | ((with_reducible show wpAny _ _ (call (Value.builtin "len") _) _ _ _); k_dflt (refine lenL (by first | omega | (simp only [List.length_map, List.length_append, List.length_cons, List.length_nil, List.length_singleton]; omega)) ?_); intro zt zk) | ((with_reducible show wpAny _ _ (call (Value.ref 107) _) _ _ _); k_dflt (refine' next_call ?zzB ?zzF ?zzX ?zzN ?zzT ?zzhk ?zzhl ?zzhi ?zzhn ?zzU ?zzh0 ?zzhx0 ?zzhx1 ?zzhk0 ?zzhd ?zzhu ?_; (case zzB => k_asm); (case zzF => k_asm); (case zzX => k_asm); (case zzN => k_asm); (case zzT => k_asm); (case zzhk => exact rfl); (case zzU => k_updF); (case zzhl => k_asm); (case zzhi => k_asm); (case zzhn => k_asm); (case zzh0 => omega); (case zzhx0 => omega); (case zzhx1 => omega); (case zzhk0 => omega); (case zzhd => ktr_room); (case zzhu => ktr_units)); (try clear zb3); (try clear zb4); (try clear zb5); intro zr zu zi zx zti ztx zh ztk zb1 zb2 zb3 zb4 zb5 zF zN; (try dsimp only at zN); (try k_sweep)) | (k_unfold; (try dsimp only)) | walk1 | dsimp only) | fail "no step")
              rename Fr _ _ _ _ => F6
              rename News _ _ _ _ => N6
              rw [List.take_of_length_le (by omega)] at q3
              rw [List.drop_of_length_le (by omega)] at q4
              have N10 : News s1.heap s1.heap.objs.size _ ((I1, oI1) :: (R2, listOf (strValues rd).toArray c) :: (de, odE3) :: (dp, odP2) :: (pl, listOf lp.toArray cp) :: (st, stObj sc i' ti x' tx) :: (s1.heap.objs.size + 1, oce) :: (I, oI) :: tl3) := News.sub N6 (fun q hq => .tail _ hq)
              exact ⟨_, _, _, _, rfl, F6, N10, kd, kr, odE3, tl3, ⟨rfl, rfl, rfl, rfl, rfl, rfl, rfl, rfl, rfl⟩, rfl, q2, by rw [List.take_of_length_le (by omega)]; exact q3, by rw [List.drop_of_length_le (by omega)]; exact q4, q5, q6, q7, q8, q9, q10, q11, q12, q13⟩
          · rintro m₂ news₂ h2 tk2 ⟨kd, kr, odE3, tl3, q1, rfl, q2, q3, q4, q5, q6, q7, q8, q9, q10, q11, q12, q13⟩ F1 N1
            have hnn : Int.toNat ((e.2.1.length : Nat) : Int) = (cpsOf e.2.1).length := by rw [cpsOf_length]; simp
            have hwl := (walkEB_break eb (cpsOf e.2.1) buf.length).1
            rw [hnn, List.take_of_length_le hwl] at q3
            rw [hnn, List.drop_of_length_le hwl] at q4
            have hkr := q4.nil_of
            rw [hkr, List.append_nil] at q2
            try dsimp only
            repeat' (first | ((fail_if_success (with_reducible show In2Q ..)); first | ((with_reducible show wpAny _ _ (getMethod (Value.str _ _) (Str.ofString "encode") _) _ _ _); k_dflt (refine getMethod_encode ?_)) | ((with_reducible show wpAny _ _ (binaryOp .Add (Value.bytes _ _) (Value.bytes _ _)) _ _ _); k_dflt (refine addL (by first | omega | (simp only [List.length_map, List.length_append, List.length_cons, List.length_nil, List.length_singleton]; omega)) ?_); intro zt zk) | ((with_reducible show wpAny _ _ (call (Value.builtin "len") _) _ _ _); k_dflt (refine lenL (by first | omega | (simp only [List.length_map, List.length_append, List.length_cons, List.length_nil, List.length_singleton]; omega)) ?_); intro zt zk) | ((with_reducible show wpAny _ _ (call (Value.ref 107) _) _ _ _); k_dflt (refine' next_call ?zzB ?zzF ?zzX ?zzN ?zzT ?zzhk ?zzhl ?zzhi ?zzhn ?zzU ?zzh0 ?zzhx0 ?zzhx1 ?zzhk0 ?zzhd ?zzhu ?_; (case zzB => k_asm); (case zzF => k_asm); (case zzX => k_asm); (case zzN => k_asm); (case zzT => k_asm); (case zzhk => exact rfl); (case zzU => k_updF); (case zzhl => k_asm); (case zzhi => k_asm); (case zzhn => k_asm); (case zzh0 => omega); (case zzhx0 => omega); (case zzhx1 => omega); (case zzhk0 => omega); (case zzhd => ktr_room); (case zzhu => ktr_units)); (try clear zb3); (try clear zb4); (try clear zb5); intro zr zu zi zx zti ztx zh ztk zb1 zb2 zb3 zb4 zb5 zF zN; (try dsimp only at zN); (try k_sweep)) | (k_unfold; (try dsimp only)) | walk1 | dsimp only) | fail "no step")
            exact ⟨rfl, _, _, _, kd, odE3, tl3, rfl, F1, N1, q1, q2, q3, q5, q6, q7, q8, q9, q10, q11, q13⟩
        · intro f s3 hq
          obtain ⟨rfl, h3, tk3, m3, kd, odE3, tl3, rfl, F7, N7, q1, q2, q3, q5, q6, q7, q8, q9, q10, q11, q13⟩ := hq
          rw [q1.nest] at F7
          clear F4 N4
          try dsimp only
          have hXL : (walkX eb (cpsOf e.2.1)).length ≤ 221 := by have := walkX_len eb _ hls; omega
          repeat' (first | ((fail_if_success (with_reducible show wpAny _ _ (call (Value.builtin "list.append") _) _ _ _)); first | ((with_reducible show wpAny _ _ (getMethod (Value.str _ _) (Str.ofString "encode") _) _ _ _); k_dflt (refine getMethod_encode ?_)) | ((with_reducible show wpAny _ _ (binaryOp .Add (Value.bytes _ _) (Value.bytes _ _)) _ _ _); k_dflt (refine addL (by first | omega | (simp only [List.length_map, List.length_append, List.length_cons, List.length_nil, List.length_singleton]; omega)) ?_); intro zt zk) | ((with_reducible show wpAny _ _ (call (Value.builtin "len") _) _ _ _); k_dflt (refine lenL (by first | omega | (simp only [List.length_map, List.length_append, List.length_cons, List.length_nil, List.length_singleton]; omega)) ?_); intro zt zk) | ((with_reducible show wpAny _ _ (call (Value.ref 107) _) _ _ _); k_dflt (refine' next_call ?zzB ?zzF ?zzX ?zzN ?zzT ?zzhk ?zzhl ?zzhi ?zzhn ?zzU ?zzh0 ?zzhx0 ?zzhx1 ?zzhk0 ?zzhd ?zzhu ?_; (case zzB => k_asm); (case zzF => k_asm); (case zzX => k_asm); (case zzN => k_asm); (case zzT => k_asm); (case zzhk => exact rfl); (case zzU => k_updF); (case zzhl => k_asm); (case zzhi => k_asm); (case zzhn => k_asm); (case zzh0 => omega); (case zzhx0 => omega); (case zzhx1 => omega); (case zzhk0 => omega); (case zzhd => ktr_room); (case zzhu => ktr_units)); (try clear zb3); (try clear zb4); (try clear zb5); intro zr zu zi zx zti ztx zh ztk zb1 zb2 zb3 zb4 zb5 zF zN; (try dsimp only at zN); (try k_sweep)) | (k_unfold; (try dsimp only)) | walk1 | dsimp only) | fail "no step")
          rename Fr _ _ _ _ => F6
          rename News _ _ _ _ => N6
          rename News _ _ _ ((R2, _) :: _) => gN
          obtain ⟨h4, eh4⟩ := heapName gN
          subst eh4
          have gT := fun p hp => Heap.lt_size (gN p hp).1
          have gE : @LT.lt Nat _ de h4.objs.size := gT (de, _) (by k_mem)
          have gP : @LT.lt Nat _ dp h4.objs.size := gT (dp, _) (by k_mem)
          have gL : @LT.lt Nat _ pl h4.objs.size := gT (pl, _) (by k_mem)
          have gS : @LT.lt Nat _ st h4.objs.size := gT (st, _) (by k_mem)
          have gC : @LT.lt Nat _ (s1.heap.objs.size + 1) h4.objs.size := gT (s1.heap.objs.size + 1, _) (by k_mem)
          have gI : @LT.lt Nat _ I h4.objs.size := gT (I, _) (by k_mem)
          have gR : @LT.lt Nat _ R2 h4.objs.size := gT (R2, _) (by k_mem)
          have hlp : lp.length ≤ 6 := by have := j9.length; omega
          have u7 : ∀ p ∈ tl3, p.1 ≠ pl := q8
          obtain ⟨ta, tb, eta, etb⟩ := tupName4 N6
          subst eta etb
          refine appR (vs := lp) (n := cp) F6 N6 (by k_updF) (by omega) fun h12 F12 N12 => ?_
          clear F6 N6
          try dsimp only at N12
          repeat' (first | ((fail_if_success (with_reducible show Turned ..)); first | ((with_reducible show wpAny _ _ (getMethod (Value.str _ _) (Str.ofString "encode") _) _ _ _); k_dflt (refine getMethod_encode ?_)) | ((with_reducible show wpAny _ _ (binaryOp .Add (Value.bytes _ _) (Value.bytes _ _)) _ _ _); k_dflt (refine addL (by first | omega | (simp only [List.length_map, List.length_append, List.length_cons, List.length_nil, List.length_singleton]; omega)) ?_); intro zt zk) | ((with_reducible show wpAny _ _ (call (Value.builtin "len") _) _ _ _); k_dflt (refine lenL (by first | omega | (simp only [List.length_map, List.length_append, List.length_cons, List.length_nil, List.length_singleton]; omega)) ?_); intro zt zk) | ((with_reducible show wpAny _ _ (call (Value.ref 107) _) _ _ _); k_dflt (refine' next_call ?zzB ?zzF ?zzX ?zzN ?zzT ?zzhk ?zzhl ?zzhi ?zzhn ?zzU ?zzh0 ?zzhx0 ?zzhx1 ?zzhk0 ?zzhd ?zzhu ?_; (case zzB => k_asm); (case zzF => k_asm); (case zzX => k_asm); (case zzN => k_asm); (case zzT => k_asm); (case zzhk => exact rfl); (case zzU => k_updF); (case zzhl => k_asm); (case zzhi => k_asm); (case zzhn => k_asm); (case zzh0 => omega); (case zzhx0 => omega); (case zzhx1 => omega); (case zzhk0 => omega); (case zzhd => ktr_room); (case zzhu => ktr_units)); (try clear zb3); (try clear zb4); (try clear zb5); intro zr zu zi zx zti ztx zh ztk zb1 zb2 zb3 zb4 zb5 zF zN; (try dsimp only at zN); (try k_sweep)) | (k_unfold; (try dsimp only)) | walk1 | dsimp only) | fail "no step")
          rename Fr _ _ _ _ => F6
          rename News _ _ _ _ => N6
          have N10 : News s1.heap s1.heap.objs.size _ ((I, oI) :: (de, odE3) :: (dp, odP2) :: (pl, listOf (lp ++ [Value.ref h4.objs.size]).toArray (cp + 1)) :: (st, stObj sc i' ti x' tx) :: (s1.heap.objs.size + 1, oce) :: (h4.objs.size, tupP buf.length ta R2 (buf.length + (walkX eb (cpsOf e.2.1)).length) tb (walkW eb (cpsOf e.2.1))) :: (R2, listOf (strValues rd).toArray c) :: tl3) := News.sub N6 (fun q hq => by
            rcases List.mem_cons.mp hq with rfl | hq
            · k_mem
            rcases List.mem_cons.mp hq with rfl | hq
            · k_mem
            rcases List.mem_cons.mp hq with rfl | hq
            · k_mem
            rcases List.mem_cons.mp hq with rfl | hq
            · k_mem
            rcases List.mem_cons.mp hq with rfl | hq
            · k_mem
            rcases List.mem_cons.mp hq with rfl | hq
            · k_mem
            rcases List.mem_cons.mp hq with rfl | hq
            · exact .head _
            rcases List.mem_cons.mp hq with rfl | hq
            · exact .tail _ (.head _)
            · exact .tail _ (.tail _ (.tail _ (.tail _ (.tail _ (.tail _ (.tail _ (.tail _ hq))))))))
          have o1 := Off.cons (o := tupP buf.length ta R2 (buf.length + (walkX eb (cpsOf e.2.1)).length) tb (walkW eb (cpsOf e.2.1))) gE (off_cons (o := listOf (strValues rd).toArray c) k15 q6)
          have o2 := Off.cons (o := tupP buf.length ta R2 (buf.length + (walkX eb (cpsOf e.2.1)).length) tb (walkW eb (cpsOf e.2.1))) gP (off_cons (o := listOf (strValues rd).toArray c) k16 q7)
          have o3 := Off.cons (o := tupP buf.length ta R2 (buf.length + (walkX eb (cpsOf e.2.1)).length) tb (walkW eb (cpsOf e.2.1))) gL (off_cons (o := listOf (strValues rd).toArray c) k17 q8)
          have o4 := Off.cons (o := tupP buf.length ta R2 (buf.length + (walkX eb (cpsOf e.2.1)).length) tb (walkW eb (cpsOf e.2.1))) gS (off_cons (o := listOf (strValues rd).toArray c) k18 q9)
          have o5 := Off.cons (o := tupP buf.length ta R2 (buf.length + (walkX eb (cpsOf e.2.1)).length) tb (walkW eb (cpsOf e.2.1))) gC (off_cons (o := listOf (strValues rd).toArray c) k20 q10)
          have o6 := Off.cons (o := tupP buf.length ta R2 (buf.length + (walkX eb (cpsOf e.2.1)).length) tb (walkW eb (cpsOf e.2.1))) gI (off_cons (o := listOf (strValues rd).toArray c) k19 q11)
          have hup : ∀ p ∈ tl, p ∈ (h4.objs.size, tupP buf.length ta R2 (buf.length + (walkX eb (cpsOf e.2.1)).length) tb (walkW eb (cpsOf e.2.1))) :: (R2, listOf (strValues rd).toArray c) :: tl3 := fun p hp => .tail _ (.tail _ (q5 p (k7 p hp)))
          have hGG := walk_good j10 hls (by omega : buf.length + sumL (cpsOf e.2.1) < 16384)
          have hPP := PlOk.snoc j10 j11 hls hsum (by omega)
          have hbl := (walkEB_break eb (cpsOf e.2.1) buf.length).1
          rw [cpsOf_length] at hbl
          have j12 : pls.length = i := K12
          have j13 : eb.length ≤ 4 * i := K13
          have j14 : buf.length ≤ 14004 + 221 * i := K14
          have eX : eb.length + (walkEB eb buf.length (cpsOf e.2.1)).length ≤ 4 * (i + 1) := Nat.add_le_add j13 (Nat.le_trans hbl he4)
          have bX : buf.length + (walkX eb (cpsOf e.2.1)).length ≤ 14004 + 221 * i + 221 := Nat.add_le_add j14 hXL
          refine ⟨_, _, _, _, rfl, F6, N10, buf ++ walkX eb (cpsOf e.2.1), eb ++ walkEB eb buf.length (cpsOf e.2.1), pls ++ [(buf.length, walkT eb (cpsOf e.2.1), buf.length + (walkX eb (cpsOf e.2.1)).length, walkW eb (cpsOf e.2.1))], kvE ++ kd, odE3, kvP', odP2, lp ++ [Value.ref h4.objs.size], cp + 1, i', x', ti, tx, _, (h4.objs.size, tupP buf.length ta R2 (buf.length + (walkX eb (cpsOf e.2.1)).length) tb (walkW eb (cpsOf e.2.1))) :: (R2, listOf (strValues rd).toArray c) :: tl3, rfl, rfl, rfl, rfl, rfl, q2, (j6.mono hup).append (q3.mono (fun p hp => .tail _ (.tail _ hp))), hD3, by rw [ksOf_append]; exact hPt, (j9.mono hup).append (by rw [← k5]; exact .cons (.head _) (.tail _ (.head _)) .nil), hGG, hPP, by rw [List.length_append, j12]; rfl, by rw [List.length_append]; exact eX, by rw [List.length_append]; exact bX, K15, K16, K17, fun p hp => hup p (j18 p hp), fun p hp => ⟨o1 p hp, o2 p hp, o3 p hp, o4 p hp, o5 p hp, o6 p hp⟩⟩
    · intro m₁ news₁ h tk hJ F1 N1
      w_top off
      try dsimp only
      repeat' (first | ((fail_if_success (with_reducible show OutQ ..)); first | ((with_reducible show wpAny _ _ (getMethod (Value.str _ _) (Str.ofString "encode") _) _ _ _); k_dflt (refine getMethod_encode ?_)) | ((with_reducible show wpAny _ _ (binaryOp .Add (Value.bytes _ _) (Value.bytes _ _)) _ _ _); k_dflt (refine addL (by first | omega | (simp only [List.length_map, List.length_append, List.length_cons, List.length_nil, List.length_singleton]; omega)) ?_); intro zt zk) | ((with_reducible show wpAny _ _ (call (Value.builtin "len") _) _ _ _); k_dflt (refine lenL (by first | omega | (simp only [List.length_map, List.length_append, List.length_cons, List.length_nil, List.length_singleton]; omega)) ?_); intro zt zk) | ((with_reducible show wpAny _ _ (call (Value.ref 107) _) _ _ _); k_dflt (refine' next_call ?zzB ?zzF ?zzX ?zzN ?zzT ?zzhk ?zzhl ?zzhi ?zzhn ?zzU ?zzh0 ?zzhx0 ?zzhx1 ?zzhk0 ?zzhd ?zzhu ?_; (case zzB => k_asm); (case zzF => k_asm); (case zzX => k_asm); (case zzN => k_asm); (case zzT => k_asm); (case zzhk => exact rfl); (case zzU => k_updF); (case zzhl => k_asm); (case zzhi => k_asm); (case zzhn => k_asm); (case zzh0 => omega); (case zzhx0 => omega); (case zzhx1 => omega); (case zzhk0 => omega); (case zzhd => ktr_room); (case zzhu => ktr_units)); (try clear zb3); (try clear zb4); (try clear zb5); intro zr zu zi zx zti ztx zh ztk zb1 zb2 zb3 zb4 zb5 zF zN; (try dsimp only at zN); (try k_sweep)) | (k_unfold; (try dsimp only)) | walk1 | dsimp only) | fail "no step")
      have hsz : (refsOf nl).toArray.size = nl.length := by simp [refsOf]
      exact ⟨rfl, (refsOf nl).toArray.size, by rw [hsz]; omega, by rw [hsz]; omega, _, _, _, _, _, I, rfl, F1, N1, hJ⟩
  · intro f s2 hq
    w_top off
    obtain ⟨rfl, n, hn1, hn6, h2, tk2, m2, news2, tl0, I, rfl, F1, N1, buf, eb, pls, kvE, odE', kvP, odP', lp, cp, i', x', ti, tx, t1, tl, j1, j2, j3, j4, rfl, j5, j6, j7, j8, j9, j10, j11, j12, j13, j14, j15, j16, j17, j18, j19⟩ := hq
    rw [m_at4 j1 j2 j3 j4] at F1
    subst j12
    have hbf : buf.length ≤ 15330 := by omega
    have heb : eb.length ≤ 24 := by omega
    clear j13 j14
    clear F9 N9
    try dsimp only
    repeat' (first | ((fail_if_success (with_reducible show wpAny _ _ (getMethod _ _ _) _ _ _));  first | ((with_reducible show wpAny _ _ (getMethod (Value.str _ _) (Str.ofString "encode") _) _ _ _); k_dflt (refine getMethod_encode ?_)) | ((with_reducible show wpAny _ _ (binaryOp .Add (Value.bytes _ _) (Value.bytes _ _)) _ _ _); k_dflt (refine addL (by first | omega | (simp only [List.length_map, List.length_append, List.length_cons, List.length_nil, List.length_singleton]; omega)) ?_); intro zt zk) | ((with_reducible show wpAny _ _ (call (Value.builtin "len") _) _ _ _); k_dflt (refine lenL (by first | omega | (simp only [List.length_map, List.length_append, List.length_cons, List.length_nil, List.length_singleton]; omega)) ?_); intro zt zk) | ((with_reducible show wpAny _ _ (call (Value.ref 107) _) _ _ _); k_dflt (refine' next_call ?zzB ?zzF ?zzX ?zzN ?zzT ?zzhk ?zzhl ?zzhi ?zzhn ?zzU ?zzh0 ?zzhx0 ?zzhx1 ?zzhk0 ?zzhd ?zzhu ?_; (case zzB => k_asm); (case zzF => k_asm); (case zzX => k_asm); (case zzN => k_asm); (case zzT => k_asm); (case zzhk => exact rfl); (case zzU => k_updF); (case zzhl => k_asm); (case zzhi => k_asm); (case zzhn => k_asm); (case zzh0 => omega); (case zzhx0 => omega); (case zzhx1 => omega); (case zzhk0 => omega); (case zzhd => ktr_room); (case zzhu => ktr_units)); (try clear zb3); (try clear zb4); (try clear zb5); intro zr zu zi zx zti ztx zh ztk zb1 zb2 zb3 zb4 zb5 zF zN; (try dsimp only at zN); (try k_sweep)) | (k_unfold; (try dsimp only)) | walk1 | dsimp only) | fail "no step")
    rename Fr _ _ _ _ => F3
    rename News _ _ _ _ => N3
    refine kdl_method (knd := bytesKind PR ww) PySem.F.slot_dict_values PySem.F.type_dict_values N3 (d := dp) (o := odP') (kvs := kvP) (by k_mem) j7 ?_
    repeat' (first | ((fail_if_success (with_reducible show wpAny _ _ (call (Value.builtin "dict.values") _) _ _ _));  first | ((with_reducible show wpAny _ _ (getMethod (Value.str _ _) (Str.ofString "encode") _) _ _ _); k_dflt (refine getMethod_encode ?_)) | ((with_reducible show wpAny _ _ (binaryOp .Add (Value.bytes _ _) (Value.bytes _ _)) _ _ _); k_dflt (refine addL (by first | omega | (simp only [List.length_map, List.length_append, List.length_cons, List.length_nil, List.length_singleton]; omega)) ?_); intro zt zk) | ((with_reducible show wpAny _ _ (call (Value.builtin "len") _) _ _ _); k_dflt (refine lenL (by first | omega | (simp only [List.length_map, List.length_append, List.length_cons, List.length_nil, List.length_singleton]; omega)) ?_); intro zt zk) | ((with_reducible show wpAny _ _ (call (Value.ref 107) _) _ _ _); k_dflt (refine' next_call ?zzB ?zzF ?zzX ?zzN ?zzT ?zzhk ?zzhl ?zzhi ?zzhn ?zzU ?zzh0 ?zzhx0 ?zzhx1 ?zzhk0 ?zzhd ?zzhu ?_; (case zzB => k_asm); (case zzF => k_asm); (case zzX => k_asm); (case zzN => k_asm); (case zzT => k_asm); (case zzhk => exact rfl); (case zzU => k_updF); (case zzhl => k_asm); (case zzhi => k_asm); (case zzhn => k_asm); (case zzh0 => omega); (case zzhx0 => omega); (case zzhx1 => omega); (case zzhk0 => omega); (case zzhd => ktr_room); (case zzhu => ktr_units)); (try clear zb3); (try clear zb4); (try clear zb5); intro zr zu zi zx zti ztx zh ztk zb1 zb2 zb3 zb4 zb5 zF zN; (try dsimp only at zN); (try k_sweep)) | (k_unfold; (try dsimp only)) | walk1 | dsimp only) | fail "no step")
    rename Fr _ _ _ _ => F3
    rename News _ _ _ _ => N3
    refine kdl_view_values (knd := bytesKind PR ww) (o := odP') (kvs := kvP) F3 N3 (by k_mem) j7 (by assumption) fun V4 h4 F4 N4 l4 => ?_
    clear F3 N3
    repeat' (first | ((fail_if_success (with_reducible show wpAny _ _ (call (Value.builtin "sorted") _) _ _ _));  first | ((with_reducible show wpAny _ _ (getMethod (Value.str _ _) (Str.ofString "encode") _) _ _ _); k_dflt (refine getMethod_encode ?_)) | ((with_reducible show wpAny _ _ (binaryOp .Add (Value.bytes _ _) (Value.bytes _ _)) _ _ _); k_dflt (refine addL (by first | omega | (simp only [List.length_map, List.length_append, List.length_cons, List.length_nil, List.length_singleton]; omega)) ?_); intro zt zk) | ((with_reducible show wpAny _ _ (call (Value.builtin "len") _) _ _ _); k_dflt (refine lenL (by first | omega | (simp only [List.length_map, List.length_append, List.length_cons, List.length_nil, List.length_singleton]; omega)) ?_); intro zt zk) | ((with_reducible show wpAny _ _ (call (Value.ref 107) _) _ _ _); k_dflt (refine' next_call ?zzB ?zzF ?zzX ?zzN ?zzT ?zzhk ?zzhl ?zzhi ?zzhn ?zzU ?zzh0 ?zzhx0 ?zzhx1 ?zzhk0 ?zzhd ?zzhu ?_; (case zzB => k_asm); (case zzF => k_asm); (case zzX => k_asm); (case zzN => k_asm); (case zzT => k_asm); (case zzhk => exact rfl); (case zzU => k_updF); (case zzhl => k_asm); (case zzhi => k_asm); (case zzhn => k_asm); (case zzh0 => omega); (case zzhx0 => omega); (case zzhx1 => omega); (case zzhk0 => omega); (case zzhd => ktr_room); (case zzhu => ktr_units)); (try clear zb3); (try clear zb4); (try clear zb5); intro zr zu zi zx zti ztx zh ztk zb1 zb2 zb3 zb4 zb5 zF zN; (try dsimp only at zN); (try k_sweep)) | (k_unfold; (try dsimp only)) | walk1 | dsimp only) | fail "no step")
    rename Fr _ _ _ _ => F3
    rename News _ _ _ _ => N3
    have hkl : kvP.length < 64 := by have := j8.length; simp only [tbOf, ksOf, List.length_map] at this; omega
    refine sorted_values (knd := bytesKind PR ww) (od := odP') (kvs := kvP) (d := dp) rfl F3 N3 (.head _) (by k_mem) j7 (ptrs_ints j8) hkl fun D5 h5 tk5 out5 ns5 c5 F5 N5 l5 i5 pm5 so5 => ?_
    clear F3 N3
    repeat' (first | ((fail_if_success (with_reducible show wpAny _ _ (eval (PySem.Expr.ListComp ..) _) _ _ _));  first | ((with_reducible show wpAny _ _ (getMethod (Value.str _ _) (Str.ofString "encode") _) _ _ _); k_dflt (refine getMethod_encode ?_)) | ((with_reducible show wpAny _ _ (binaryOp .Add (Value.bytes _ _) (Value.bytes _ _)) _ _ _); k_dflt (refine addL (by first | omega | (simp only [List.length_map, List.length_append, List.length_cons, List.length_nil, List.length_singleton]; omega)) ?_); intro zt zk) | ((with_reducible show wpAny _ _ (call (Value.builtin "len") _) _ _ _); k_dflt (refine lenL (by first | omega | (simp only [List.length_map, List.length_append, List.length_cons, List.length_nil, List.length_singleton]; omega)) ?_); intro zt zk) | ((with_reducible show wpAny _ _ (call (Value.ref 107) _) _ _ _); k_dflt (refine' next_call ?zzB ?zzF ?zzX ?zzN ?zzT ?zzhk ?zzhl ?zzhi ?zzhn ?zzU ?zzh0 ?zzhx0 ?zzhx1 ?zzhk0 ?zzhd ?zzhu ?_; (case zzB => k_asm); (case zzF => k_asm); (case zzX => k_asm); (case zzN => k_asm); (case zzT => k_asm); (case zzhk => exact rfl); (case zzU => k_updF); (case zzhl => k_asm); (case zzhi => k_asm); (case zzhn => k_asm); (case zzh0 => omega); (case zzhx0 => omega); (case zzhx1 => omega); (case zzhk0 => omega); (case zzhd => ktr_room); (case zzhu => ktr_units)); (try clear zb3); (try clear zb4); (try clear zb5); intro zr zu zi zx zti ztx zh ztk zb1 zb2 zb3 zb4 zb5 zF zN; (try dsimp only at zN); (try k_sweep)) | (k_unfold; (try dsimp only)) | walk1 | dsimp only) | fail "no step")
    refine ListComp_D (knd := PySem.strKind PR ww) (d := de) (od := odE') (kvs := kvE) F5 N5 (by with_unfolding_all rfl) (by decide) (by rfl) (by decide) (by rfl) ?_
    repeat' (first | ((fail_if_success (with_reducible show DictSrc ..));  first | ((with_reducible show wpAny _ _ (getMethod (Value.str _ _) (Str.ofString "encode") _) _ _ _); k_dflt (refine getMethod_encode ?_)) | ((with_reducible show wpAny _ _ (binaryOp .Add (Value.bytes _ _) (Value.bytes _ _)) _ _ _); k_dflt (refine addL (by first | omega | (simp only [List.length_map, List.length_append, List.length_cons, List.length_nil, List.length_singleton]; omega)) ?_); intro zt zk) | ((with_reducible show wpAny _ _ (call (Value.builtin "len") _) _ _ _); k_dflt (refine lenL (by first | omega | (simp only [List.length_map, List.length_append, List.length_cons, List.length_nil, List.length_singleton]; omega)) ?_); intro zt zk) | ((with_reducible show wpAny _ _ (call (Value.ref 107) _) _ _ _); k_dflt (refine' next_call ?zzB ?zzF ?zzX ?zzN ?zzT ?zzhk ?zzhl ?zzhi ?zzhn ?zzU ?zzh0 ?zzhx0 ?zzhx1 ?zzhk0 ?zzhd ?zzhu ?_; (case zzB => k_asm); (case zzF => k_asm); (case zzX => k_asm); (case zzN => k_asm); (case zzT => k_asm); (case zzhk => exact rfl); (case zzU => k_updF); (case zzhl => k_asm); (case zzhi => k_asm); (case zzhn => k_asm); (case zzh0 => omega); (case zzhx0 => omega); (case zzhx1 => omega); (case zzhk0 => omega); (case zzhd => ktr_room); (case zzhu => ktr_units)); (try clear zb3); (try clear zb4); (try clear zb5); intro zr zu zi zx zti ztx zh ztk zb1 zb2 zb3 zb4 zb5 zF zN; (try dsimp only at zN); (try k_sweep)) | (k_unfold; (try dsimp only)) | walk1 | dsimp only) | fail "no step")
    
    refine ⟨rfl, rfl, by assumption, by assumption, by k_mem, j5, by assumption, by have := j6.length; rw [sizeLine_eq]; omega, fun s₂ hs2 => ?_⟩
    obtain ⟨g2, rfl⟩ := hs2
    refine rest_inv (n := kvE.length) (fun i ys => IntsAre ys ((eb.take i).map fun e => ((e.2.1 : Nat) : Int))) (by k_mem) ?_ ?_ _ 0 [] (by simp) .nil
    · intro i ys v I oI C oC D m₂ h tk E' hi hJ hP hC hm F N
      obtain ⟨kk, xx, hx1, hx2⟩ := hP
      obtain ⟨t9, rfl⟩ := str_key hx2
      try dsimp only
      clear F5 N5
      have hvk := valueAt_get (dict_nodup j5) hx1
      obtain ⟨ee, T, R, tp, e1, rfl, rfl, e2⟩ := j6.at hx1
      repeat' (first | ((fail_if_success (with_reducible show wpAny _ _ (subscriptTail ..) _ _ _));  first | ((with_reducible show wpAny _ _ (getMethod (Value.str _ _) (Str.ofString "encode") _) _ _ _); k_dflt (refine getMethod_encode ?_)) | ((with_reducible show wpAny _ _ (binaryOp .Add (Value.bytes _ _) (Value.bytes _ _)) _ _ _); k_dflt (refine addL (by first | omega | (simp only [List.length_map, List.length_append, List.length_cons, List.length_nil, List.length_singleton]; omega)) ?_); intro zt zk) | ((with_reducible show wpAny _ _ (call (Value.builtin "len") _) _ _ _); k_dflt (refine lenL (by first | omega | (simp only [List.length_map, List.length_append, List.length_cons, List.length_nil, List.length_singleton]; omega)) ?_); intro zt zk) | ((with_reducible show wpAny _ _ (call (Value.ref 107) _) _ _ _); k_dflt (refine' next_call ?zzB ?zzF ?zzX ?zzN ?zzT ?zzhk ?zzhl ?zzhi ?zzhn ?zzU ?zzh0 ?zzhx0 ?zzhx1 ?zzhk0 ?zzhd ?zzhu ?_; (case zzB => k_asm); (case zzF => k_asm); (case zzX => k_asm); (case zzN => k_asm); (case zzT => k_asm); (case zzhk => exact rfl); (case zzU => k_updF); (case zzhl => k_asm); (case zzhi => k_asm); (case zzhn => k_asm); (case zzh0 => omega); (case zzhx0 => omega); (case zzhx1 => omega); (case zzhk0 => omega); (case zzhd => ktr_room); (case zzhu => ktr_units)); (try clear zb3); (try clear zb4); (try clear zb5); intro zr zu zi zx zti ztx zh ztk zb1 zb2 zb3 zb4 zb5 zF zN; (try dsimp only at zN); (try k_sweep)) | (k_unfold; (try dsimp only)) | walk1 | dsimp only) | fail "no step")
      rename News _ _ _ _ => N3
      refine kda_item (knd := PySem.strKind PR ww) N3 (o := odE') (kvs := kvE) (by k_mem) j5 hx2 hvk ?_
      repeat' (first | ((fail_if_success (with_reducible show wpAny _ _ (subscriptTail ..) _ _ _));  first | ((with_reducible show wpAny _ _ (getMethod (Value.str _ _) (Str.ofString "encode") _) _ _ _); k_dflt (refine getMethod_encode ?_)) | ((with_reducible show wpAny _ _ (binaryOp .Add (Value.bytes _ _) (Value.bytes _ _)) _ _ _); k_dflt (refine addL (by first | omega | (simp only [List.length_map, List.length_append, List.length_cons, List.length_nil, List.length_singleton]; omega)) ?_); intro zt zk) | ((with_reducible show wpAny _ _ (call (Value.builtin "len") _) _ _ _); k_dflt (refine lenL (by first | omega | (simp only [List.length_map, List.length_append, List.length_cons, List.length_nil, List.length_singleton]; omega)) ?_); intro zt zk) | ((with_reducible show wpAny _ _ (call (Value.ref 107) _) _ _ _); k_dflt (refine' next_call ?zzB ?zzF ?zzX ?zzN ?zzT ?zzhk ?zzhl ?zzhi ?zzhn ?zzU ?zzh0 ?zzhx0 ?zzhx1 ?zzhk0 ?zzhd ?zzhu ?_; (case zzB => k_asm); (case zzF => k_asm); (case zzX => k_asm); (case zzN => k_asm); (case zzT => k_asm); (case zzhk => exact rfl); (case zzU => k_updF); (case zzhl => k_asm); (case zzhi => k_asm); (case zzhn => k_asm); (case zzh0 => omega); (case zzhx0 => omega); (case zzhx1 => omega); (case zzhk0 => omega); (case zzhd => ktr_room); (case zzhu => ktr_units)); (try clear zb3); (try clear zb4); (try clear zb5); intro zr zu zi zx zti ztx zh ztk zb1 zb2 zb3 zb4 zb5 zF zN; (try dsimp only at zN); (try k_sweep)) | (k_unfold; (try dsimp only)) | walk1 | dsimp only) | fail "no step")
      rename Fr _ _ _ _ => F3
      rename News _ _ _ _ => N3
      refine tup0 N3 (by (repeat (first | exact e2 | refine List.Mem.tail _ ?_))) ?_
      refine ⟨?_, _, _, rfl, F3, N3⟩
      rw [take_next e1, List.map_append]
      exact IntsAre.append hJ (.cons _ _ .nil)
    · intro ys hJ D h tk F N o1
      try dsimp only
      clear F5 N5
      repeat' (first | ((fail_if_success (with_reducible show wpAny _ _ (call ..) _ _ _));  first | ((with_reducible show wpAny _ _ (getMethod (Value.str _ _) (Str.ofString "encode") _) _ _ _); k_dflt (refine getMethod_encode ?_)) | ((with_reducible show wpAny _ _ (binaryOp .Add (Value.bytes _ _) (Value.bytes _ _)) _ _ _); k_dflt (refine addL (by first | omega | (simp only [List.length_map, List.length_append, List.length_cons, List.length_nil, List.length_singleton]; omega)) ?_); intro zt zk) | ((with_reducible show wpAny _ _ (call (Value.builtin "len") _) _ _ _); k_dflt (refine lenL (by first | omega | (simp only [List.length_map, List.length_append, List.length_cons, List.length_nil, List.length_singleton]; omega)) ?_); intro zt zk) | ((with_reducible show wpAny _ _ (call (Value.ref 107) _) _ _ _); k_dflt (refine' next_call ?zzB ?zzF ?zzX ?zzN ?zzT ?zzhk ?zzhl ?zzhi ?zzhn ?zzU ?zzh0 ?zzhx0 ?zzhx1 ?zzhk0 ?zzhd ?zzhu ?_; (case zzB => k_asm); (case zzF => k_asm); (case zzX => k_asm); (case zzN => k_asm); (case zzT => k_asm); (case zzhk => exact rfl); (case zzU => k_updF); (case zzhl => k_asm); (case zzhi => k_asm); (case zzhn => k_asm); (case zzh0 => omega); (case zzhx0 => omega); (case zzhx1 => omega); (case zzhk0 => omega); (case zzhd => ktr_room); (case zzhu => ktr_units)); (try clear zb3); (try clear zb4); (try clear zb5); intro zr zu zi zx zti ztx zh ztk zb1 zb2 zb3 zb4 zb5 zF zN; (try dsimp only at zN); (try k_sweep)) | (k_unfold; (try dsimp only)) | walk1 | dsimp only) | fail "no step")
      rename Fr _ _ _ _ => F3
      rename News _ _ _ _ => N3
      have hke := j6.length
      rw [List.take_of_length_le (by omega)] at hJ
      refine kso_sorted F3 N3 (N3.isList (n := ys.length) (.head _)) hJ (by rw [List.length_map]; omega) fun D6 out6 ns6 c6 h6 F6 N6 l6 i6 _ pm6 so6 _ => ?_
      clear F3 N3
      repeat' (first | ((fail_if_success (with_reducible show wpAny _ _ (compareOp ..) _ _ _));  first | ((with_reducible show wpAny _ _ (getMethod (Value.str _ _) (Str.ofString "encode") _) _ _ _); k_dflt (refine getMethod_encode ?_)) | ((with_reducible show wpAny _ _ (binaryOp .Add (Value.bytes _ _) (Value.bytes _ _)) _ _ _); k_dflt (refine addL (by first | omega | (simp only [List.length_map, List.length_append, List.length_cons, List.length_nil, List.length_singleton]; omega)) ?_); intro zt zk) | ((with_reducible show wpAny _ _ (call (Value.builtin "len") _) _ _ _); k_dflt (refine lenL (by first | omega | (simp only [List.length_map, List.length_append, List.length_cons, List.length_nil, List.length_singleton]; omega)) ?_); intro zt zk) | ((with_reducible show wpAny _ _ (call (Value.ref 107) _) _ _ _); k_dflt (refine' next_call ?zzB ?zzF ?zzX ?zzN ?zzT ?zzhk ?zzhl ?zzhi ?zzhn ?zzU ?zzh0 ?zzhx0 ?zzhx1 ?zzhk0 ?zzhd ?zzhu ?_; (case zzB => k_asm); (case zzF => k_asm); (case zzX => k_asm); (case zzN => k_asm); (case zzT => k_asm); (case zzhk => exact rfl); (case zzU => k_updF); (case zzhl => k_asm); (case zzhi => k_asm); (case zzhn => k_asm); (case zzh0 => omega); (case zzhx0 => omega); (case zzhx1 => omega); (case zzhk0 => omega); (case zzhd => ktr_room); (case zzhu => ktr_units)); (try clear zb3); (try clear zb4); (try clear zb5); intro zr zu zi zx zti ztx zh ztk zb1 zb2 zb3 zb4 zb5 zF zN; (try dsimp only at zN); (try k_sweep)) | (k_unfold; (try dsimp only)) | walk1 | dsimp only) | fail "no step")
      rename Fr _ _ _ _ => F3
      rename News _ _ _ _ => N3
      have hns : ns5 = ns6 := lks_uniq (pm5.trans (List.Perm.trans (by rw [show (tbOf (ksOf eb)).map (fun e => ((e.2 : Nat) : Int)) = eb.map fun e => ((e.2.1 : Nat) : Int) from by simp [tbOf, ksOf]]) pm6.symm)) so5 so6
      refine ne_intsK (N3.isList (n := c5) (.tail _ (.tail _ (.head _)))) i5 (N3.isList (n := c6) (.head _)) i6 (by ktr_units) ?_
      rw [hns, show (!decide (ns6 = ns6)) = false from by simp]
      repeat' (first | ((fail_if_success (with_reducible show wpAny _ _ (exec (Stmt.For ..) _) _ _ _)); first | ((with_reducible show wpAny _ _ (getMethod (Value.str _ _) (Str.ofString "encode") _) _ _ _); k_dflt (refine getMethod_encode ?_)) | ((with_reducible show wpAny _ _ (binaryOp .Add (Value.bytes _ _) (Value.bytes _ _)) _ _ _); k_dflt (refine addL (by first | omega | (simp only [List.length_map, List.length_append, List.length_cons, List.length_nil, List.length_singleton]; omega)) ?_); intro zt zk) | ((with_reducible show wpAny _ _ (call (Value.builtin "len") _) _ _ _); k_dflt (refine lenL (by first | omega | (simp only [List.length_map, List.length_append, List.length_cons, List.length_nil, List.length_singleton]; omega)) ?_); intro zt zk) | ((with_reducible show wpAny _ _ (call (Value.ref 107) _) _ _ _); k_dflt (refine' next_call ?zzB ?zzF ?zzX ?zzN ?zzT ?zzhk ?zzhl ?zzhi ?zzhn ?zzU ?zzh0 ?zzhx0 ?zzhx1 ?zzhk0 ?zzhd ?zzhu ?_; (case zzB => k_asm); (case zzF => k_asm); (case zzX => k_asm); (case zzN => k_asm); (case zzT => k_asm); (case zzhk => exact rfl); (case zzU => k_updF); (case zzhl => k_asm); (case zzhi => k_asm); (case zzhn => k_asm); (case zzh0 => omega); (case zzhx0 => omega); (case zzhx1 => omega); (case zzhk0 => omega); (case zzhd => ktr_room); (case zzhu => ktr_units)); (try clear zb3); (try clear zb4); (try clear zb5); intro zr zu zi zx zti ztx zh ztk zb1 zb2 zb3 zb4 zb5 zF zN; (try dsimp only at zN); (try k_sweep)) | (k_unfold; (try dsimp only)) | walk1 | dsimp only) | fail "no step")
      rename Fr _ _ _ _ => F7
      rename News _ _ _ _ => N7
      have N8 : News s1.heap s1.heap.objs.size _ ((de, odE') :: (dp, odP') :: (pl, listOf lp.toArray cp) :: (st, stObj sc i' ti x' tx) :: (s1.heap.objs.size + 1, oce) :: tl) := News.sub N7 (fun q hq => by
        rcases List.mem_cons.mp hq with rfl | hq
        · k_mem
        rcases List.mem_cons.mp hq with rfl | hq
        · k_mem
        rcases List.mem_cons.mp hq with rfl | hq
        · k_mem
        rcases List.mem_cons.mp hq with rfl | hq
        · k_mem
        rcases List.mem_cons.mp hq with rfl | hq
        · k_mem
        · repeat (first | exact hq | refine List.Mem.tail _ ?_))
      clear N7
      try clear F6 N6
      try clear F N o1
      refine wpAny_mono (Q := PlQ s1 s1.heap s1.heap.objs.size (.bytes (List.toArray buf) t1) (.ref dp) (.ref pl) (.ref st) ((de, odE') :: (dp, odP') :: (pl, listOf lp.toArray cp) :: (st, stObj sc i' ti x' tx) :: (s1.heap.objs.size + 1, oce) :: tl)) (E := fun _ _ => False) ?_ ?_ (fun _ _ h => h.elim)
      · refine wpAny_For ?_
        repeat' (first | ((fail_if_success (with_reducible show wpAny _ _ (pyIter _) _ _ _)); first | ((with_reducible show wpAny _ _ (getMethod (Value.str _ _) (Str.ofString "encode") _) _ _ _); k_dflt (refine getMethod_encode ?_)) | ((with_reducible show wpAny _ _ (binaryOp .Add (Value.bytes _ _) (Value.bytes _ _)) _ _ _); k_dflt (refine addL (by first | omega | (simp only [List.length_map, List.length_append, List.length_cons, List.length_nil, List.length_singleton]; omega)) ?_); intro zt zk) | ((with_reducible show wpAny _ _ (call (Value.builtin "len") _) _ _ _); k_dflt (refine lenL (by first | omega | (simp only [List.length_map, List.length_append, List.length_cons, List.length_nil, List.length_singleton]; omega)) ?_); intro zt zk) | ((with_reducible show wpAny _ _ (call (Value.ref 107) _) _ _ _); k_dflt (refine' next_call ?zzB ?zzF ?zzX ?zzN ?zzT ?zzhk ?zzhl ?zzhi ?zzhn ?zzU ?zzh0 ?zzhx0 ?zzhx1 ?zzhk0 ?zzhd ?zzhu ?_; (case zzB => k_asm); (case zzF => k_asm); (case zzX => k_asm); (case zzN => k_asm); (case zzT => k_asm); (case zzhk => exact rfl); (case zzU => k_updF); (case zzhl => k_asm); (case zzhi => k_asm); (case zzhn => k_asm); (case zzh0 => omega); (case zzhx0 => omega); (case zzhx1 => omega); (case zzhk0 => omega); (case zzhd => ktr_room); (case zzhu => ktr_units)); (try clear zb3); (try clear zb4); (try clear zb5); intro zr zu zi zx zti ztx zh ztk zb1 zb2 zb3 zb4 zb5 zF zN; (try dsimp only at zN); (try k_sweep)) | (k_unfold; (try dsimp only)) | walk1 | dsimp only) | fail "no step")
        rename Fr _ _ _ _ => F7
        rename News _ _ _ _ => N7
        refine for_list (lo := listOf lp.toArray cp) (items := lp.toArray) rfl rfl F7 N7 (by k_mem) (fun h e => ⟨_, e, rfl, _, rfl⟩) (fun i I v s R E hit h => by cases v <;> first | exact wpAny_letOwnedTupleGo_listiter hit h | exact wpAny_of_eq rfl h) fun I2 hI2 => ⟨fun _ m news => news = ((de, odE') :: (dp, odP') :: (pl, listOf lp.toArray cp) :: (st, stObj sc i' ti x' tx) :: (s1.heap.objs.size + 1, oce) :: tl) ∧ Names4 m (.bytes (List.toArray buf) t1) (.ref dp) (.ref pl) (.ref st), ?_, ?_, ?_, ?_⟩
        · exact ⟨rfl, rfl, rfl, rfl, rfl⟩
        · rintro i m news ⟨rfl, _⟩
          exact ⟨fun p hp => .inl (by rw [List.mem_singleton.mp hp]; k_mem), fun p hp => Nat.ne_of_lt (hI2 p hp)⟩
        · rintro i v m₁ news₁ h tk oI hi hv ⟨rfl, q1, q2, q3, q4⟩ F1 N1
          obtain ⟨T, R, p, be, c, ta, tb, wh, rd, rfl, m1, m2, m3⟩ := j9.get (i := i) (v := v) (by simpa using hv)
          obtain ⟨w1, w2, w3, w4, _⟩ := j11 _ m3
          dsimp only at w1 w2 w3 w4
          rw [m_at4 q1 q2 q3 q4] at F1
          clear q1 q2 q3 q4 F7 N7
          try dsimp only
          refine assign_four rfl rfl rfl rfl rfl rfl rfl F1 N1 (by (repeat (first | exact m1 | refine List.Mem.tail _ ?_))) fun h9 kk9 F9 N9 => ?_
          clear F1 N1
          repeat' (first | ((fail_if_success (with_reducible show wpAny _ _ (call (Value.ref 100) _) _ _ _)); first | ((with_reducible show wpAny _ _ (getMethod (Value.str _ _) (Str.ofString "encode") _) _ _ _); k_dflt (refine getMethod_encode ?_)) | ((with_reducible show wpAny _ _ (binaryOp .Add (Value.bytes _ _) (Value.bytes _ _)) _ _ _); k_dflt (refine addL (by first | omega | (simp only [List.length_map, List.length_append, List.length_cons, List.length_nil, List.length_singleton]; omega)) ?_); intro zt zk) | ((with_reducible show wpAny _ _ (call (Value.builtin "len") _) _ _ _); k_dflt (refine lenL (by first | omega | (simp only [List.length_map, List.length_append, List.length_cons, List.length_nil, List.length_singleton]; omega)) ?_); intro zt zk) | ((with_reducible show wpAny _ _ (call (Value.ref 107) _) _ _ _); k_dflt (refine' next_call ?zzB ?zzF ?zzX ?zzN ?zzT ?zzhk ?zzhl ?zzhi ?zzhn ?zzU ?zzh0 ?zzhx0 ?zzhx1 ?zzhk0 ?zzhd ?zzhu ?_; (case zzB => k_asm); (case zzF => k_asm); (case zzX => k_asm); (case zzN => k_asm); (case zzT => k_asm); (case zzhk => exact rfl); (case zzU => k_updF); (case zzhl => k_asm); (case zzhi => k_asm); (case zzhn => k_asm); (case zzh0 => omega); (case zzhx0 => omega); (case zzhx1 => omega); (case zzhk0 => omega); (case zzhd => ktr_room); (case zzhu => ktr_units)); (try clear zb3); (try clear zb4); (try clear zb5); intro zr zu zi zx zti ztx zh ztk zb1 zb2 zb3 zb4 zb5 zF zN; (try dsimp only at zN); (try k_sweep)) | (k_unfold; (try dsimp only)) | walk1 | dsimp only) | fail "no step")
          rename Fr _ _ _ _ => F2
          rename News _ _ _ _ => N2
          obtain ⟨nu, hnu⟩ := pl_unp w1 w2
          refine' unpack_call (r := .done ((cpsOf rd).map bOf) be) (n := nu) (buf := buf) (at_ := p) ?B ?F ?X ?N ?T ?hk ?hd ?hu ?hbuf ?hU ?hasc ?hraise ?hret
          case B => k_asm
          case F => k_asm
          case X => k_asm
          case N => k_asm
          case T => k_asm
          case hk => exact rfl
          case hd => ktr_room
          case hu => ktr_units
          case hbuf => omega
          case hU => exact hnu
          case hasc => intro name sv e; cases e; exact done_asc w3
          case hraise => rintro C e t vs G h' tk' (⟨hr, _⟩ | ⟨hr, _⟩) <;> cases hr
          case hret =>
            rintro name sv T9 t9 t10 h' tk' hr hT F3 N3 l3
            cases hr
            rw [done_name w3] at N3
            clear F2 N2
            repeat' (first | ((fail_if_success (with_reducible show wpAny _ _ (call (Value.builtin "str.join") _) _ _ _)); first | ((with_reducible show wpAny _ _ (getMethod (Value.str _ _) (Str.ofString "encode") _) _ _ _); k_dflt (refine getMethod_encode ?_)) | ((with_reducible show wpAny _ _ (binaryOp .Add (Value.bytes _ _) (Value.bytes _ _)) _ _ _); k_dflt (refine addL (by first | omega | (simp only [List.length_map, List.length_append, List.length_cons, List.length_nil, List.length_singleton]; omega)) ?_); intro zt zk) | ((with_reducible show wpAny _ _ (call (Value.builtin "len") _) _ _ _); k_dflt (refine lenL (by first | omega | (simp only [List.length_map, List.length_append, List.length_cons, List.length_nil, List.length_singleton]; omega)) ?_); intro zt zk) | ((with_reducible show wpAny _ _ (call (Value.ref 107) _) _ _ _); k_dflt (refine' next_call ?zzB ?zzF ?zzX ?zzN ?zzT ?zzhk ?zzhl ?zzhi ?zzhn ?zzU ?zzh0 ?zzhx0 ?zzhx1 ?zzhk0 ?zzhd ?zzhu ?_; (case zzB => k_asm); (case zzF => k_asm); (case zzX => k_asm); (case zzN => k_asm); (case zzT => k_asm); (case zzhk => exact rfl); (case zzU => k_updF); (case zzhl => k_asm); (case zzhi => k_asm); (case zzhn => k_asm); (case zzh0 => omega); (case zzhx0 => omega); (case zzhx1 => omega); (case zzhk0 => omega); (case zzhd => ktr_room); (case zzhu => ktr_units)); (try clear zb3); (try clear zb4); (try clear zb5); intro zr zu zi zx zti ztx zh ztk zb1 zb2 zb3 zb4 zb5 zF zN; (try dsimp only at zN); (try k_sweep)) | (k_unfold; (try dsimp only)) | walk1 | dsimp only) | fail "no step")
            rename News _ _ _ _ => N2
            refine call_joinS (l := rd) (N2.isList (n := c) (by (repeat (first | exact m2 | refine List.Mem.tail _ ?_)))) (by omega) fun t2 k2 => ?_
            repeat' (first | ((fail_if_success (with_reducible show wpAny _ _ (compareOp ..) _ _ _)); first | ((with_reducible show wpAny _ _ (getMethod (Value.str _ _) (Str.ofString "encode") _) _ _ _); k_dflt (refine getMethod_encode ?_)) | ((with_reducible show wpAny _ _ (binaryOp .Add (Value.bytes _ _) (Value.bytes _ _)) _ _ _); k_dflt (refine addL (by first | omega | (simp only [List.length_map, List.length_append, List.length_cons, List.length_nil, List.length_singleton]; omega)) ?_); intro zt zk) | ((with_reducible show wpAny _ _ (call (Value.builtin "len") _) _ _ _); k_dflt (refine lenL (by first | omega | (simp only [List.length_map, List.length_append, List.length_cons, List.length_nil, List.length_singleton]; omega)) ?_); intro zt zk) | ((with_reducible show wpAny _ _ (call (Value.ref 107) _) _ _ _); k_dflt (refine' next_call ?zzB ?zzF ?zzX ?zzN ?zzT ?zzhk ?zzhl ?zzhi ?zzhn ?zzU ?zzh0 ?zzhx0 ?zzhx1 ?zzhk0 ?zzhd ?zzhu ?_; (case zzB => k_asm); (case zzF => k_asm); (case zzX => k_asm); (case zzN => k_asm); (case zzT => k_asm); (case zzhk => exact rfl); (case zzU => k_updF); (case zzhl => k_asm); (case zzhi => k_asm); (case zzhn => k_asm); (case zzh0 => omega); (case zzhx0 => omega); (case zzhx1 => omega); (case zzhk0 => omega); (case zzhd => ktr_room); (case zzhu => ktr_units)); (try clear zb3); (try clear zb4); (try clear zb5); intro zr zu zi zx zti ztx zh ztk zb1 zb2 zb3 zb4 zb5 zF zN; (try dsimp only at zN); (try k_sweep)) | (k_unfold; (try dsimp only)) | walk1 | dsimp only) | fail "no step")
            rename Fr _ _ _ _ => F6
            rename News _ _ _ _ => N6
            refine ne_pair (x := joinL [46] (cpsOf rd)) N6 (.tail _ (.head _)) (.head _) (join_lt w3) (by ktr_units) ?_
            repeat' (first | ((fail_if_success (with_reducible show Turned ..)); first | ((with_reducible show wpAny _ _ (getMethod (Value.str _ _) (Str.ofString "encode") _) _ _ _); k_dflt (refine getMethod_encode ?_)) | ((with_reducible show wpAny _ _ (binaryOp .Add (Value.bytes _ _) (Value.bytes _ _)) _ _ _); k_dflt (refine addL (by first | omega | (simp only [List.length_map, List.length_append, List.length_cons, List.length_nil, List.length_singleton]; omega)) ?_); intro zt zk) | ((with_reducible show wpAny _ _ (call (Value.builtin "len") _) _ _ _); k_dflt (refine lenL (by first | omega | (simp only [List.length_map, List.length_append, List.length_cons, List.length_nil, List.length_singleton]; omega)) ?_); intro zt zk) | ((with_reducible show wpAny _ _ (call (Value.ref 107) _) _ _ _); k_dflt (refine' next_call ?zzB ?zzF ?zzX ?zzN ?zzT ?zzhk ?zzhl ?zzhi ?zzhn ?zzU ?zzh0 ?zzhx0 ?zzhx1 ?zzhk0 ?zzhd ?zzhu ?_; (case zzB => k_asm); (case zzF => k_asm); (case zzX => k_asm); (case zzN => k_asm); (case zzT => k_asm); (case zzhk => exact rfl); (case zzU => k_updF); (case zzhl => k_asm); (case zzhi => k_asm); (case zzhn => k_asm); (case zzh0 => omega); (case zzhx0 => omega); (case zzhx1 => omega); (case zzhk0 => omega); (case zzhd => ktr_room); (case zzhu => ktr_units)); (try clear zb3); (try clear zb4); (try clear zb5); intro zr zu zi zx zti ztx zh ztk zb1 zb2 zb3 zb4 zb5 zF zN; (try dsimp only at zN); (try k_sweep)) | (k_unfold; (try dsimp only)) | walk1 | dsimp only) | fail "no step")
            exact ⟨_, _, _, _, rfl, F6, News.sub N6 (fun q hq => .tail _ (.tail _ hq)), rfl, rfl, rfl, rfl, rfl⟩
        · rintro m₁ news₁ h tk ⟨rfl, q1⟩ F1 N1
          try dsimp only
          repeat' (first | ((fail_if_success (with_reducible show PlQ ..)); first | ((with_reducible show wpAny _ _ (getMethod (Value.str _ _) (Str.ofString "encode") _) _ _ _); k_dflt (refine getMethod_encode ?_)) | ((with_reducible show wpAny _ _ (binaryOp .Add (Value.bytes _ _) (Value.bytes _ _)) _ _ _); k_dflt (refine addL (by first | omega | (simp only [List.length_map, List.length_append, List.length_cons, List.length_nil, List.length_singleton]; omega)) ?_); intro zt zk) | ((with_reducible show wpAny _ _ (call (Value.builtin "len") _) _ _ _); k_dflt (refine lenL (by first | omega | (simp only [List.length_map, List.length_append, List.length_cons, List.length_nil, List.length_singleton]; omega)) ?_); intro zt zk) | ((with_reducible show wpAny _ _ (call (Value.ref 107) _) _ _ _); k_dflt (refine' next_call ?zzB ?zzF ?zzX ?zzN ?zzT ?zzhk ?zzhl ?zzhi ?zzhn ?zzU ?zzh0 ?zzhx0 ?zzhx1 ?zzhk0 ?zzhd ?zzhu ?_; (case zzB => k_asm); (case zzF => k_asm); (case zzX => k_asm); (case zzN => k_asm); (case zzT => k_asm); (case zzhk => exact rfl); (case zzU => k_updF); (case zzhl => k_asm); (case zzhi => k_asm); (case zzhn => k_asm); (case zzh0 => omega); (case zzhx0 => omega); (case zzhx1 => omega); (case zzhk0 => omega); (case zzhd => ktr_room); (case zzhu => ktr_units)); (try clear zb3); (try clear zb4); (try clear zb5); intro zr zu zi zx zti ztx zh ztk zb1 zb2 zb3 zb4 zb5 zF zN; (try dsimp only at zN); (try k_sweep)) | (k_unfold; (try dsimp only)) | walk1 | dsimp only) | fail "no step")
          exact ⟨rfl, _, _, _, rfl, F1, N1, q1⟩
      · intro f s2 hq
        obtain ⟨rfl, h3, tk3, m3, rfl, F3, N3, q1, q2, q3, q4⟩ := hq
        rw [m_at4 q1 q2 q3 q4] at F3
        clear q1 q2 q3 q4 j1 j2 j3 j4
        try clear F7 N8
        try clear F1
        try clear N1
        have hlp0 := j9.length
        have hlp : lp.length ≤ 6 := by rw [hlp0]; exact hn6
        have hlp1 : 1 ≤ lp.length := by rw [hlp0]; exact hn1
        have hlp2 : (0 : Int) < ((lp.length : Nat) : Int) := Int.ofNat_lt.mpr hlp1
        clear hlp0 hn1 hn6 hlp1
        try dsimp only
        have hds : (st, stObj sc i' ti x' tx) ∈ (de, odE') :: (dp, odP') :: (pl, listOf lp.toArray cp) :: (st, stObj sc i' ti x' tx) :: (s1.heap.objs.size + 1, oce) :: tl := by k_mem
        have ht4 : ∀ p ∈ tl, p.1 ≠ st := fun p hp => (j19 p hp).2.2.2.1
        repeat' (first | ((fail_if_success (with_reducible show wpAny _ _ (call (Value.builtin "len") _) _ _ _)); first | ((with_reducible show wpAny _ _ (getMethod (Value.str _ _) (Str.ofString "encode") _) _ _ _); k_dflt (refine getMethod_encode ?_)) | ((with_reducible show wpAny _ _ (binaryOp .Add (Value.bytes _ _) (Value.bytes _ _)) _ _ _); k_dflt (refine addL (by first | omega | (simp only [List.length_map, List.length_append, List.length_cons, List.length_nil, List.length_singleton]; omega)) ?_); intro zt zk) | ((with_reducible show wpAny _ _ (call (Value.builtin "len") _) _ _ _); k_dflt (refine lenL (by first | omega | (simp only [List.length_map, List.length_append, List.length_cons, List.length_nil, List.length_singleton]; omega)) ?_); intro zt zk) | ((with_reducible show wpAny _ _ (call (Value.ref 107) _) _ _ _); k_dflt (refine' next_call ?zzB ?zzF ?zzX ?zzN ?zzT ?zzhk ?zzhl ?zzhi ?zzhn ?zzU ?zzh0 ?zzhx0 ?zzhx1 ?zzhk0 ?zzhd ?zzhu ?_; (case zzB => k_asm); (case zzF => k_asm); (case zzX => k_asm); (case zzN => k_asm); (case zzT => k_asm); (case zzhk => exact rfl); (case zzU => k_updF); (case zzhl => k_asm); (case zzhi => k_asm); (case zzhn => k_asm); (case zzh0 => omega); (case zzhx0 => omega); (case zzhx1 => omega); (case zzhk0 => omega); (case zzhd => ktr_room); (case zzhu => ktr_units)); (try clear zb3); (try clear zb4); (try clear zb5); intro zr zu zi zx zti ztx zh ztk zb1 zb2 zb3 zb4 zb5 zF zN; (try dsimp only at zN); (try k_sweep)) | (k_unfold; (try dsimp only)) | walk1 | dsimp only) | fail "no step")
        rename News _ _ _ _ => N5
        refine lenR (vs := lp) (N5.isList (n := cp) (by k_mem)) (by omega) fun t5 k5 => ?_
        repeat' (first | ((fail_if_success (with_reducible show wpAny _ _ (subscriptTail ..) _ _ _)); first | ((with_reducible show wpAny _ _ (getMethod (Value.str _ _) (Str.ofString "encode") _) _ _ _); k_dflt (refine getMethod_encode ?_)) | ((with_reducible show wpAny _ _ (binaryOp .Add (Value.bytes _ _) (Value.bytes _ _)) _ _ _); k_dflt (refine addL (by first | omega | (simp only [List.length_map, List.length_append, List.length_cons, List.length_nil, List.length_singleton]; omega)) ?_); intro zt zk) | ((with_reducible show wpAny _ _ (call (Value.builtin "len") _) _ _ _); k_dflt (refine lenL (by first | omega | (simp only [List.length_map, List.length_append, List.length_cons, List.length_nil, List.length_singleton]; omega)) ?_); intro zt zk) | ((with_reducible show wpAny _ _ (call (Value.ref 107) _) _ _ _); k_dflt (refine' next_call ?zzB ?zzF ?zzX ?zzN ?zzT ?zzhk ?zzhl ?zzhi ?zzhn ?zzU ?zzh0 ?zzhx0 ?zzhx1 ?zzhk0 ?zzhd ?zzhu ?_; (case zzB => k_asm); (case zzF => k_asm); (case zzX => k_asm); (case zzN => k_asm); (case zzT => k_asm); (case zzhk => exact rfl); (case zzU => k_updF); (case zzhl => k_asm); (case zzhi => k_asm); (case zzhn => k_asm); (case zzh0 => omega); (case zzhx0 => omega); (case zzhx1 => omega); (case zzhk0 => omega); (case zzhd => ktr_room); (case zzhu => ktr_units)); (try clear zb3); (try clear zb4); (try clear zb5); intro zr zu zi zx zti ztx zh ztk zb1 zb2 zb3 zb4 zb5 zF zN; (try dsimp only at zN); (try k_sweep)) | (k_unfold; (try dsimp only)) | walk1 | dsimp only) | fail "no step")
        rename _ < ((lp.length : Nat) : Int) => hb2
        obtain ⟨rr, err⟩ := ltName hb2
        subst err
        have hr2 : rr.toNat < lp.length := toNat_lt (by assumption) hb2
        obtain ⟨T, R, p, be, c, ta, tb, wh, rd, ev, m1, m2, m3⟩ := j9.get (i := rr.toNat) (List.getElem?_eq_getElem hr2)
        obtain ⟨w1, w2, w3, w4, w5⟩ := j11 _ m3
        dsimp only at w1 w2 w3 w4 w5
        rename News _ _ _ _ => N5
        refine itemR (vs := lp) (x := .ref T) (N5.isList (n := cp) (by k_mem)) (by assumption) (lt_big hb2 hlp) (by rw [List.getElem?_eq_getElem hr2, ev]) ?_
        rename Fr _ _ _ _ => F6
        rename News _ _ _ _ => N6
        obtain ⟨i2, x2, ti2, tx2, ei2, ex2, eti, etx⟩ := stName N6
        subst ei2 ex2 eti etx
        refine assign_four rfl rfl rfl rfl rfl rfl rfl F6 N6 (by (repeat (first | exact m1 | refine List.Mem.tail _ ?_))) fun h9 kk9 F9 N9 => ?_
        clear F6 N6
        repeat' (first | ((fail_if_success (with_reducible show wpAny _ _ (exec (Stmt.If ..) _) _ _ _)); first | ((with_reducible show wpAny _ _ (getMethod (Value.str _ _) (Str.ofString "encode") _) _ _ _); k_dflt (refine getMethod_encode ?_)) | ((with_reducible show wpAny _ _ (binaryOp .Add (Value.bytes _ _) (Value.bytes _ _)) _ _ _); k_dflt (refine addL (by first | omega | (simp only [List.length_map, List.length_append, List.length_cons, List.length_nil, List.length_singleton]; omega)) ?_); intro zt zk) | ((with_reducible show wpAny _ _ (call (Value.builtin "len") _) _ _ _); k_dflt (refine lenL (by first | omega | (simp only [List.length_map, List.length_append, List.length_cons, List.length_nil, List.length_singleton]; omega)) ?_); intro zt zk) | ((with_reducible show wpAny _ _ (call (Value.ref 107) _) _ _ _); k_dflt (refine' next_call ?zzB ?zzF ?zzX ?zzN ?zzT ?zzhk ?zzhl ?zzhi ?zzhn ?zzU ?zzh0 ?zzhx0 ?zzhx1 ?zzhk0 ?zzhd ?zzhu ?_; (case zzB => k_asm); (case zzF => k_asm); (case zzX => k_asm); (case zzN => k_asm); (case zzT => k_asm); (case zzhk => exact rfl); (case zzU => k_updF); (case zzhl => k_asm); (case zzhi => k_asm); (case zzhn => k_asm); (case zzh0 => omega); (case zzhx0 => omega); (case zzhx1 => omega); (case zzhk0 => omega); (case zzhd => ktr_room); (case zzhu => ktr_units)); (try clear zb3); (try clear zb4); (try clear zb5); intro zr zu zi zx zti ztx zh ztk zb1 zb2 zb3 zb4 zb5 zF zN; (try dsimp only at zN); (try k_sweep)) | (k_unfold; (try dsimp only)) | walk1 | dsimp only) | fail "no step")
        refine wpAny_mono (Q := PlQ s1 s1.heap s1.heap.objs.size (.bytes (List.toArray buf) t1) (.ref dp) (.ref pl) (.ref st) ((de, odE') :: (dp, odP') :: (pl, listOf lp.toArray cp) :: (st, stObj sc i2 ti2 x2 tx2) :: (s1.heap.objs.size + 1, oce) :: tl)) (E := fun _ _ => False) ?_ ?_ (fun _ _ h => h.elim)
        · cases wh
          · repeat' (first | ((fail_if_success (with_reducible show PlQ ..)); first | ((with_reducible show wpAny _ _ (getMethod (Value.str _ _) (Str.ofString "encode") _) _ _ _); k_dflt (refine getMethod_encode ?_)) | ((with_reducible show wpAny _ _ (binaryOp .Add (Value.bytes _ _) (Value.bytes _ _)) _ _ _); k_dflt (refine addL (by first | omega | (simp only [List.length_map, List.length_append, List.length_cons, List.length_nil, List.length_singleton]; omega)) ?_); intro zt zk) | ((with_reducible show wpAny _ _ (call (Value.builtin "len") _) _ _ _); k_dflt (refine lenL (by first | omega | (simp only [List.length_map, List.length_append, List.length_cons, List.length_nil, List.length_singleton]; omega)) ?_); intro zt zk) | ((with_reducible show wpAny _ _ (call (Value.ref 107) _) _ _ _); k_dflt (refine' next_call ?zzB ?zzF ?zzX ?zzN ?zzT ?zzhk ?zzhl ?zzhi ?zzhn ?zzU ?zzh0 ?zzhx0 ?zzhx1 ?zzhk0 ?zzhd ?zzhu ?_; (case zzB => k_asm); (case zzF => k_asm); (case zzX => k_asm); (case zzN => k_asm); (case zzT => k_asm); (case zzhk => exact rfl); (case zzU => k_updF); (case zzhl => k_asm); (case zzhi => k_asm); (case zzhn => k_asm); (case zzh0 => omega); (case zzhx0 => omega); (case zzhx1 => omega); (case zzhk0 => omega); (case zzhd => ktr_room); (case zzhu => ktr_units)); (try clear zb3); (try clear zb4); (try clear zb5); intro zr zu zi zx zti ztx zh ztk zb1 zb2 zb3 zb4 zb5 zF zN; (try dsimp only at zN); (try k_sweep)) | (k_unfold; (try dsimp only)) | walk1 | dsimp only) | fail "no step")
            exact ⟨rfl, _, _, _, rfl, by assumption, by assumption, rfl, rfl, rfl, rfl⟩
          · obtain ⟨v1, v2, v3⟩ := w5 rfl
            repeat' (first | ((fail_if_success (with_reducible show wpAny _ _ (call (Value.ref 136) _) _ _ _)); first | ((with_reducible show wpAny _ _ (getMethod (Value.str _ _) (Str.ofString "encode") _) _ _ _); k_dflt (refine getMethod_encode ?_)) | ((with_reducible show wpAny _ _ (binaryOp .Add (Value.bytes _ _) (Value.bytes _ _)) _ _ _); k_dflt (refine addL (by first | omega | (simp only [List.length_map, List.length_append, List.length_cons, List.length_nil, List.length_singleton]; omega)) ?_); intro zt zk) | ((with_reducible show wpAny _ _ (call (Value.builtin "len") _) _ _ _); k_dflt (refine lenL (by first | omega | (simp only [List.length_map, List.length_append, List.length_cons, List.length_nil, List.length_singleton]; omega)) ?_); intro zt zk) | ((with_reducible show wpAny _ _ (call (Value.ref 107) _) _ _ _); k_dflt (refine' next_call ?zzB ?zzF ?zzX ?zzN ?zzT ?zzhk ?zzhl ?zzhi ?zzhn ?zzU ?zzh0 ?zzhx0 ?zzhx1 ?zzhk0 ?zzhd ?zzhu ?_; (case zzB => k_asm); (case zzF => k_asm); (case zzX => k_asm); (case zzN => k_asm); (case zzT => k_asm); (case zzhk => exact rfl); (case zzU => k_updF); (case zzhl => k_asm); (case zzhi => k_asm); (case zzhn => k_asm); (case zzh0 => omega); (case zzhx0 => omega); (case zzhx1 => omega); (case zzhk0 => omega); (case zzhd => ktr_room); (case zzhu => ktr_units)); (try clear zb3); (try clear zb4); (try clear zb5); intro zr zu zi zx zti ztx zh ztk zb1 zb2 zb3 zb4 zb5 zF zN; (try dsimp only at zN); (try k_sweep)) | (k_unfold; (try dsimp only)) | walk1 | dsimp only) | fail "no step")
            rw [show ((be : Nat) : Int) - 1 = ((p + sumL (cpsOf rd) : Nat) : Int) from be_one v2]
            obtain ⟨nu, hnu⟩ := needy_unp v1 w2
            rename Fr _ _ _ _ => F6
            rename News _ _ _ _ => N6
            refine' needy_call (cut := p + sumL (cpsOf rd)) (n := nu) (buf := buf) (at_ := p) ?B F6 ?X N6 ?T ?XB ?TB ?D ?hk ?hd ?hu ?hbuf hnu ?hret
            case B => k_asm
            case X => k_asm
            case T => k_asm
            case XB => k_asm
            case TB => k_asm
            case D => exact fun b hb => nomatch hb
            case hk => exact rfl
            case hd => ktr_room
            case hu => ktr_units
            case hbuf => omega
            case hret =>
              intro h₁ h' tk' T5 F5 N5 _
              obtain ⟨F8, N8⟩ := turn_nil T5 F5 N5
              clear F5 N5 F6 N6
              repeat' (first | ((fail_if_success (with_reducible show PlQ ..)); first | ((with_reducible show wpAny _ _ (getMethod (Value.str _ _) (Str.ofString "encode") _) _ _ _); k_dflt (refine getMethod_encode ?_)) | ((with_reducible show wpAny _ _ (binaryOp .Add (Value.bytes _ _) (Value.bytes _ _)) _ _ _); k_dflt (refine addL (by first | omega | (simp only [List.length_map, List.length_append, List.length_cons, List.length_nil, List.length_singleton]; omega)) ?_); intro zt zk) | ((with_reducible show wpAny _ _ (call (Value.builtin "len") _) _ _ _); k_dflt (refine lenL (by first | omega | (simp only [List.length_map, List.length_append, List.length_cons, List.length_nil, List.length_singleton]; omega)) ?_); intro zt zk) | ((with_reducible show wpAny _ _ (call (Value.ref 107) _) _ _ _); k_dflt (refine' next_call ?zzB ?zzF ?zzX ?zzN ?zzT ?zzhk ?zzhl ?zzhi ?zzhn ?zzU ?zzh0 ?zzhx0 ?zzhx1 ?zzhk0 ?zzhd ?zzhu ?_; (case zzB => k_asm); (case zzF => k_asm); (case zzX => k_asm); (case zzN => k_asm); (case zzT => k_asm); (case zzhk => exact rfl); (case zzU => k_updF); (case zzhl => k_asm); (case zzhi => k_asm); (case zzhn => k_asm); (case zzh0 => omega); (case zzhx0 => omega); (case zzhx1 => omega); (case zzhk0 => omega); (case zzhd => ktr_room); (case zzhu => ktr_units)); (try clear zb3); (try clear zb4); (try clear zb5); intro zr zu zi zx zti ztx zh ztk zb1 zb2 zb3 zb4 zb5 zF zN; (try dsimp only at zN); (try k_sweep)) | (k_unfold; (try dsimp only)) | walk1 | dsimp only) | fail "no step")
              exact ⟨rfl, _, _, _, rfl, by assumption, by assumption, rfl, rfl, rfl, rfl⟩
        · intro f s4 hq
          obtain ⟨rfl, h3, tk3, m3, rfl, F3, N3, q1, q2, q3, q4⟩ := hq
          rw [m_at4 q1 q2 q3 q4] at F3
          clear q1 q2 q3 q4
          have N8 : News s1.heap s1.heap.objs.size _ [(st, stObj sc i2 ti2 x2 tx2)] := News.sub N3 (fun q hq => by rw [List.mem_singleton.mp hq]; k_mem)
          clear N3 F9 N9 hds ht4
          try dsimp only
          repeat' (first | ((fail_if_success (with_reducible show wpAny _ _ (exec (Stmt.If ..) _) _ _ _)); first | ((with_reducible show wpAny _ _ (getMethod (Value.str _ _) (Str.ofString "encode") _) _ _ _); k_dflt (refine getMethod_encode ?_)) | ((with_reducible show wpAny _ _ (binaryOp .Add (Value.bytes _ _) (Value.bytes _ _)) _ _ _); k_dflt (refine addL (by first | omega | (simp only [List.length_map, List.length_append, List.length_cons, List.length_nil, List.length_singleton]; omega)) ?_); intro zt zk) | ((with_reducible show wpAny _ _ (call (Value.builtin "len") _) _ _ _); k_dflt (refine lenL (by first | omega | (simp only [List.length_map, List.length_append, List.length_cons, List.length_nil, List.length_singleton]; omega)) ?_); intro zt zk) | ((with_reducible show wpAny _ _ (call (Value.ref 107) _) _ _ _); k_dflt (refine' next_call ?zzB ?zzF ?zzX ?zzN ?zzT ?zzhk ?zzhl ?zzhi ?zzhn ?zzU ?zzh0 ?zzhx0 ?zzhx1 ?zzhk0 ?zzhd ?zzhu ?_; (case zzB => k_asm); (case zzF => k_asm); (case zzX => k_asm); (case zzN => k_asm); (case zzT => k_asm); (case zzhk => exact rfl); (case zzU => k_updF); (case zzhl => k_asm); (case zzhi => k_asm); (case zzhn => k_asm); (case zzh0 => omega); (case zzhx0 => omega); (case zzhx1 => omega); (case zzhk0 => omega); (case zzhd => ktr_room); (case zzhu => ktr_units)); (try clear zb3); (try clear zb4); (try clear zb5); intro zr zu zi zx zti ztx zh ztk zb1 zb2 zb3 zb4 zb5 zF zN; (try dsimp only at zN); (try k_sweep)) | (k_unfold; (try dsimp only)) | walk1 | dsimp only) | fail "no step")
          refine wpAny_mono (Q := HereQ s1 s1.heap s1.heap.objs.size st sc (.bytes (List.toArray buf) t1) ((buf.length : Nat) : Int)) (E := fun _ _ => False) ?_ ?_ (fun _ _ h => h.elim)
          · repeat' (first | ((fail_if_success (with_reducible show wpAny _ _ (subscriptTail ..) _ _ _)); first | ((with_reducible show wpAny _ _ (getMethod (Value.str _ _) (Str.ofString "encode") _) _ _ _); k_dflt (refine getMethod_encode ?_)) | ((with_reducible show wpAny _ _ (binaryOp .Add (Value.bytes _ _) (Value.bytes _ _)) _ _ _); k_dflt (refine addL (by first | omega | (simp only [List.length_map, List.length_append, List.length_cons, List.length_nil, List.length_singleton]; omega)) ?_); intro zt zk) | ((with_reducible show wpAny _ _ (call (Value.builtin "len") _) _ _ _); k_dflt (refine lenL (by first | omega | (simp only [List.length_map, List.length_append, List.length_cons, List.length_nil, List.length_singleton]; omega)) ?_); intro zt zk) | ((with_reducible show wpAny _ _ (call (Value.ref 107) _) _ _ _); k_dflt (refine' next_call ?zzB ?zzF ?zzX ?zzN ?zzT ?zzhk ?zzhl ?zzhi ?zzhn ?zzU ?zzh0 ?zzhx0 ?zzhx1 ?zzhk0 ?zzhd ?zzhu ?_; (case zzB => k_asm); (case zzF => k_asm); (case zzX => k_asm); (case zzN => k_asm); (case zzT => k_asm); (case zzhk => exact rfl); (case zzU => k_updF); (case zzhl => k_asm); (case zzhi => k_asm); (case zzhn => k_asm); (case zzh0 => omega); (case zzhx0 => omega); (case zzhx1 => omega); (case zzhk0 => omega); (case zzhd => ktr_room); (case zzhu => ktr_units)); (try clear zb3); (try clear zb4); (try clear zb5); intro zr zu zi zx zti ztx zh ztk zb1 zb2 zb3 zb4 zb5 zF zN; (try dsimp only at zN); (try k_sweep)) | (k_unfold; (try dsimp only)) | walk1 | dsimp only) | fail "no step")
            rename News _ _ _ _ => N6
            rename _ < (6 : Int) => hb2
            obtain ⟨rr, err⟩ := ltName hb2
            subst err
            obtain ⟨hA, v, hv, hX⟩ := around_all (buf := buf) N6 (by omega) (by assumption) hb2
            refine itemR hA (by assumption) (by omega) hv ?_
            obtain ⟨a, vs2, nsx, X, rfl, hm, hIx, hrx, hlx, hmx, hX5, hunp⟩ := hX
            repeat' (first | ((fail_if_success (with_reducible show wpAny _ _ (call (Value.type "bytes") [Value.ref _]) _ _ _)); first | ((with_reducible show wpAny _ _ (getMethod (Value.str _ _) (Str.ofString "encode") _) _ _ _); k_dflt (refine getMethod_encode ?_)) | ((with_reducible show wpAny _ _ (binaryOp .Add (Value.bytes _ _) (Value.bytes _ _)) _ _ _); k_dflt (refine addL (by first | omega | (simp only [List.length_map, List.length_append, List.length_cons, List.length_nil, List.length_singleton]; omega)) ?_); intro zt zk) | ((with_reducible show wpAny _ _ (call (Value.builtin "len") _) _ _ _); k_dflt (refine lenL (by first | omega | (simp only [List.length_map, List.length_append, List.length_cons, List.length_nil, List.length_singleton]; omega)) ?_); intro zt zk) | ((with_reducible show wpAny _ _ (call (Value.ref 107) _) _ _ _); k_dflt (refine' next_call ?zzB ?zzF ?zzX ?zzN ?zzT ?zzhk ?zzhl ?zzhi ?zzhn ?zzU ?zzh0 ?zzhx0 ?zzhx1 ?zzhk0 ?zzhd ?zzhu ?_; (case zzB => k_asm); (case zzF => k_asm); (case zzX => k_asm); (case zzN => k_asm); (case zzT => k_asm); (case zzhk => exact rfl); (case zzU => k_updF); (case zzhl => k_asm); (case zzhi => k_asm); (case zzhn => k_asm); (case zzh0 => omega); (case zzhx0 => omega); (case zzhx1 => omega); (case zzhk0 => omega); (case zzhd => ktr_room); (case zzhu => ktr_units)); (try clear zb3); (try clear zb4); (try clear zb5); intro zr zu zi zx zti ztx zh ztk zb1 zb2 zb3 zb4 zb5 zF zN; (try dsimp only at zN); (try k_sweep)) | (k_unfold; (try dsimp only)) | walk1 | dsimp only) | fail "no step")
            rename Fr _ _ _ _ => F6
            rename News _ _ _ _ => N6
            refine bytes_K (ns := nsx) F6 N6 (N6.isList (n := 0) hm) hIx hrx (by rw [sizeLine_eq]; omega) rfl ?_
            intro h10 t10 kk10 F10 N10 _
            rw [hmx]
            have N12 : News s1.heap s1.heap.objs.size _ [(st, stObj sc _ _ _ _)] := News.sub N10 (fun q hq => by rw [List.mem_singleton.mp hq]; k_mem)
            clear F6 N6 N10 hm hA
            repeat' (first | ((fail_if_success (with_reducible show wpAny _ _ (call (Value.ref 129) _) _ _ _)); first | ((with_reducible show wpAny _ _ (getMethod (Value.str _ _) (Str.ofString "encode") _) _ _ _); k_dflt (refine getMethod_encode ?_)) | ((with_reducible show wpAny _ _ (binaryOp .Add (Value.bytes _ _) (Value.bytes _ _)) _ _ _); k_dflt (refine addL (by first | omega | (simp only [List.length_map, List.length_append, List.length_cons, List.length_nil, List.length_singleton]; omega)) ?_); intro zt zk) | ((with_reducible show wpAny _ _ (call (Value.builtin "len") _) _ _ _); k_dflt (refine lenL (by first | omega | (simp only [List.length_map, List.length_append, List.length_cons, List.length_nil, List.length_singleton]; omega)) ?_); intro zt zk) | ((with_reducible show wpAny _ _ (call (Value.ref 107) _) _ _ _); k_dflt (refine' next_call ?zzB ?zzF ?zzX ?zzN ?zzT ?zzhk ?zzhl ?zzhi ?zzhn ?zzU ?zzh0 ?zzhx0 ?zzhx1 ?zzhk0 ?zzhd ?zzhu ?_; (case zzB => k_asm); (case zzF => k_asm); (case zzX => k_asm); (case zzN => k_asm); (case zzT => k_asm); (case zzhk => exact rfl); (case zzU => k_updF); (case zzhl => k_asm); (case zzhi => k_asm); (case zzhn => k_asm); (case zzh0 => omega); (case zzhx0 => omega); (case zzhx1 => omega); (case zzhk0 => omega); (case zzhd => ktr_room); (case zzhu => ktr_units)); (try clear zb3); (try clear zb4); (try clear zb5); intro zr zu zi zx zti ztx zh ztk zb1 zb2 zb3 zb4 zb5 zF zN; (try dsimp only at zN); (try k_sweep)) | (k_unfold; (try dsimp only)) | walk1 | dsimp only) | fail "no step")
            obtain ⟨nu, hnu⟩ := hunp [0, 0, 0, 0]
            rw [List.append_assoc]
            rename Fr _ _ _ _ => F6
            rename News _ _ _ _ => N6
            refine' refused_call (r := .refused) (n := nu) (at_ := buf.length) ?B F6 ?X N6 ?T ?XB ?TB ?D ?hk ?hd ?hu ?hbuf hnu (fun _ _ e => nomatch e) (fun _ _ _ _ e => nomatch e) ?href (fun _ _ _ _ _ _ _ e => nomatch e)
            case B => k_asm
            case X => k_asm
            case T => k_asm
            case XB => k_asm
            case TB => k_asm
            case D => exact fun b hb => nomatch hb
            case hk => exact rfl
            case hd => ktr_room
            case hu => ktr_units
            case hbuf => simp only [List.length_append, List.length_cons, List.length_nil]; omega
            case href =>
              intro u9 h₁ h' tk' _ T5 F5 N5 _
              obtain ⟨F8, N8⟩ := turn_nil T5 F5 N5
              clear F5 N5 F6 N6
              repeat' (first | ((fail_if_success (with_reducible show HereQ ..)); first | ((with_reducible show wpAny _ _ (getMethod (Value.str _ _) (Str.ofString "encode") _) _ _ _); k_dflt (refine getMethod_encode ?_)) | ((with_reducible show wpAny _ _ (binaryOp .Add (Value.bytes _ _) (Value.bytes _ _)) _ _ _); k_dflt (refine addL (by first | omega | (simp only [List.length_map, List.length_append, List.length_cons, List.length_nil, List.length_singleton]; omega)) ?_); intro zt zk) | ((with_reducible show wpAny _ _ (call (Value.builtin "len") _) _ _ _); k_dflt (refine lenL (by first | omega | (simp only [List.length_map, List.length_append, List.length_cons, List.length_nil, List.length_singleton]; omega)) ?_); intro zt zk) | ((with_reducible show wpAny _ _ (call (Value.ref 107) _) _ _ _); k_dflt (refine' next_call ?zzB ?zzF ?zzX ?zzN ?zzT ?zzhk ?zzhl ?zzhi ?zzhn ?zzU ?zzh0 ?zzhx0 ?zzhx1 ?zzhk0 ?zzhd ?zzhu ?_; (case zzB => k_asm); (case zzF => k_asm); (case zzX => k_asm); (case zzN => k_asm); (case zzT => k_asm); (case zzhk => exact rfl); (case zzU => k_updF); (case zzhl => k_asm); (case zzhi => k_asm); (case zzhn => k_asm); (case zzh0 => omega); (case zzhx0 => omega); (case zzhx1 => omega); (case zzhk0 => omega); (case zzhd => ktr_room); (case zzhu => ktr_units)); (try clear zb3); (try clear zb4); (try clear zb5); intro zr zu zi zx zti ztx zh ztk zb1 zb2 zb3 zb4 zb5 zF zN; (try dsimp only at zN); (try k_sweep)) | (k_unfold; (try dsimp only)) | walk1 | dsimp only) | fail "no step")
              exact ⟨rfl, _, _, _, _, _, _, _, _, rfl, by assumption, by assumption, by assumption, by assumption, by assumption, rfl, rfl, rfl⟩
          · intro f s5 hq
            obtain ⟨rfl, h3, tk3, m3, i3, x3, ti3, tx3, t3, rfl, F3, N3, y1, y2, y3, q1, q2, q3⟩ := hq
            rw [m_at3 q1 q2 q3] at F3
            clear q1 q2 q3
            try dsimp only
            repeat' (first | ((fail_if_success (with_reducible show wpAny _ _ (call (Value.type "bytes") [Value.ref _]) _ _ _)); first | ((with_reducible show wpAny _ _ (getMethod (Value.str _ _) (Str.ofString "encode") _) _ _ _); k_dflt (refine getMethod_encode ?_)) | ((with_reducible show wpAny _ _ (binaryOp .Add (Value.bytes _ _) (Value.bytes _ _)) _ _ _); k_dflt (refine addL (by first | omega | (simp only [List.length_map, List.length_append, List.length_cons, List.length_nil, List.length_singleton]; omega)) ?_); intro zt zk) | ((with_reducible show wpAny _ _ (call (Value.builtin "len") _) _ _ _); k_dflt (refine lenL (by first | omega | (simp only [List.length_map, List.length_append, List.length_cons, List.length_nil, List.length_singleton]; omega)) ?_); intro zt zk) | ((with_reducible show wpAny _ _ (call (Value.ref 107) _) _ _ _); k_dflt (refine' next_call ?zzB ?zzF ?zzX ?zzN ?zzT ?zzhk ?zzhl ?zzhi ?zzhn ?zzU ?zzh0 ?zzhx0 ?zzhx1 ?zzhk0 ?zzhd ?zzhu ?_; (case zzB => k_asm); (case zzF => k_asm); (case zzX => k_asm); (case zzN => k_asm); (case zzT => k_asm); (case zzhk => exact rfl); (case zzU => k_updF); (case zzhl => k_asm); (case zzhi => k_asm); (case zzhn => k_asm); (case zzh0 => omega); (case zzhx0 => omega); (case zzhx1 => omega); (case zzhk0 => omega); (case zzhd => ktr_room); (case zzhu => ktr_units)); (try clear zb3); (try clear zb4); (try clear zb5); intro zr zu zi zx zti ztx zh ztk zb1 zb2 zb3 zb4 zb5 zF zN; (try dsimp only at zN); (try k_sweep)) | (k_unfold; (try dsimp only)) | walk1 | dsimp only) | fail "no step")
            rename Fr _ _ _ _ => F6
            rename News _ _ _ _ => N6
            refine bytes_K (ns := [192 + ((buf.length : Nat) : Int).fdiv 256, ((buf.length : Nat) : Int).fmod 256]) F6 N6 (N6.isList (n := 0) (.head _)) (.cons _ _ (.cons _ _ .nil)) (ptr_in (by omega)) (by simp [sizeLine_eq]) rfl ?_
            intro h10 t10 kk10 F10 N10 _
            rw [ptr_map (p := buf.length) (by omega)]
            clear F6 N6
            repeat' (first | ((fail_if_success (with_reducible show wpAny _ _ (call (Value.ref 129) _) _ _ _)); first | ((with_reducible show wpAny _ _ (getMethod (Value.str _ _) (Str.ofString "encode") _) _ _ _); k_dflt (refine getMethod_encode ?_)) | ((with_reducible show wpAny _ _ (binaryOp .Add (Value.bytes _ _) (Value.bytes _ _)) _ _ _); k_dflt (refine addL (by first | omega | (simp only [List.length_map, List.length_append, List.length_cons, List.length_nil, List.length_singleton]; omega)) ?_); intro zt zk) | ((with_reducible show wpAny _ _ (call (Value.builtin "len") _) _ _ _); k_dflt (refine lenL (by first | omega | (simp only [List.length_map, List.length_append, List.length_cons, List.length_nil, List.length_singleton]; omega)) ?_); intro zt zk) | ((with_reducible show wpAny _ _ (call (Value.ref 107) _) _ _ _); k_dflt (refine' next_call ?zzB ?zzF ?zzX ?zzN ?zzT ?zzhk ?zzhl ?zzhi ?zzhn ?zzU ?zzh0 ?zzhx0 ?zzhx1 ?zzhk0 ?zzhd ?zzhu ?_; (case zzB => k_asm); (case zzF => k_asm); (case zzX => k_asm); (case zzN => k_asm); (case zzT => k_asm); (case zzhk => exact rfl); (case zzU => k_updF); (case zzhl => k_asm); (case zzhi => k_asm); (case zzhn => k_asm); (case zzh0 => omega); (case zzhx0 => omega); (case zzhx1 => omega); (case zzhk0 => omega); (case zzhd => ktr_room); (case zzhu => ktr_units)); (try clear zb3); (try clear zb4); (try clear zb5); intro zr zu zi zx zti ztx zh ztk zb1 zb2 zb3 zb4 zb5 zF zN; (try dsimp only at zN); (try k_sweep)) | (k_unfold; (try dsimp only)) | walk1 | dsimp only) | fail "no step")
            obtain ⟨nu1, hnu1⟩ := twice buf (by omega)
            rw [List.append_assoc, show ((buf.length : Nat) : Int) + 2 = ((buf.length + 2 : Nat) : Int) from rfl]
            rename Fr _ _ _ _ => F6
            rename News _ _ _ _ => N6
            refine' refused_call (r := .refused) (n := nu1) (at_ := buf.length + 2) ?B F6 ?X N6 ?T ?XB ?TB ?D ?hk ?hd ?hu ?hbuf ?hU (fun _ _ e => nomatch e) (fun _ _ _ _ e => nomatch e) ?href (fun _ _ _ _ _ _ _ e => nomatch e)
            case hU => exact hnu1
            case B => k_asm
            case X => k_asm
            case T => k_asm
            case XB => k_asm
            case TB => k_asm
            case D => exact fun b hb => nomatch hb
            case hk => exact rfl
            case hd => ktr_room
            case hu => ktr_units
            case hbuf => simp only [List.length_append, List.length_cons, List.length_nil]; omega
            case href =>
              intro u9 h₁ h' tk' _ T5 F5 N5 B5
              obtain ⟨F8, N8⟩ := turn_nil T5 F5 N5
              clear T5 F5 N5 F6 N6 B5
              repeat' (first | ((fail_if_success (with_reducible show wpAny _ _ (call (Value.type "bytes") [Value.ref _]) _ _ _)); first | ((with_reducible show wpAny _ _ (getMethod (Value.str _ _) (Str.ofString "encode") _) _ _ _); k_dflt (refine getMethod_encode ?_)) | ((with_reducible show wpAny _ _ (binaryOp .Add (Value.bytes _ _) (Value.bytes _ _)) _ _ _); k_dflt (refine addL (by first | omega | (simp only [List.length_map, List.length_append, List.length_cons, List.length_nil, List.length_singleton]; omega)) ?_); intro zt zk) | ((with_reducible show wpAny _ _ (call (Value.builtin "len") _) _ _ _); k_dflt (refine lenL (by first | omega | (simp only [List.length_map, List.length_append, List.length_cons, List.length_nil, List.length_singleton]; omega)) ?_); intro zt zk) | ((with_reducible show wpAny _ _ (call (Value.ref 107) _) _ _ _); k_dflt (refine' next_call ?zzB ?zzF ?zzX ?zzN ?zzT ?zzhk ?zzhl ?zzhi ?zzhn ?zzU ?zzh0 ?zzhx0 ?zzhx1 ?zzhk0 ?zzhd ?zzhu ?_; (case zzB => k_asm); (case zzF => k_asm); (case zzX => k_asm); (case zzN => k_asm); (case zzT => k_asm); (case zzhk => exact rfl); (case zzU => k_updF); (case zzhl => k_asm); (case zzhi => k_asm); (case zzhn => k_asm); (case zzh0 => omega); (case zzhx0 => omega); (case zzhx1 => omega); (case zzhk0 => omega); (case zzhd => ktr_room); (case zzhu => ktr_units)); (try clear zb3); (try clear zb4); (try clear zb5); intro zr zu zi zx zti ztx zh ztk zb1 zb2 zb3 zb4 zb5 zF zN; (try dsimp only at zN); (try k_sweep)) | (k_unfold; (try dsimp only)) | walk1 | dsimp only) | fail "no step")
              rename Fr _ _ _ _ => F6
              rename News _ _ _ _ => N6
              rw [show ((buf.length : Nat) : Int) + 2 = ((buf.length + 2 : Nat) : Int) from rfl] at N6
              refine bytes_K (ns := [192 + ((buf.length + 2 : Nat) : Int).fdiv 256, ((buf.length + 2 : Nat) : Int).fmod 256]) F6 N6 (N6.isList (n := 0) (.head _)) (.cons _ _ (.cons _ _ .nil)) (ptr_in (by omega)) (by simp [sizeLine_eq]) rfl ?_
              intro h11 t11 kk11 F11 N11 _
              rw [ptr_map (p := buf.length + 2) (by omega)]
              clear F6 N6
              repeat' (first | ((fail_if_success (with_reducible show wpAny _ _ (call (Value.ref 129) _) _ _ _)); first | ((with_reducible show wpAny _ _ (getMethod (Value.str _ _) (Str.ofString "encode") _) _ _ _); k_dflt (refine getMethod_encode ?_)) | ((with_reducible show wpAny _ _ (binaryOp .Add (Value.bytes _ _) (Value.bytes _ _)) _ _ _); k_dflt (refine addL (by first | omega | (simp only [List.length_map, List.length_append, List.length_cons, List.length_nil, List.length_singleton]; omega)) ?_); intro zt zk) | ((with_reducible show wpAny _ _ (call (Value.builtin "len") _) _ _ _); k_dflt (refine lenL (by first | omega | (simp only [List.length_map, List.length_append, List.length_cons, List.length_nil, List.length_singleton]; omega)) ?_); intro zt zk) | ((with_reducible show wpAny _ _ (call (Value.ref 107) _) _ _ _); k_dflt (refine' next_call ?zzB ?zzF ?zzX ?zzN ?zzT ?zzhk ?zzhl ?zzhi ?zzhn ?zzU ?zzh0 ?zzhx0 ?zzhx1 ?zzhk0 ?zzhd ?zzhu ?_; (case zzB => k_asm); (case zzF => k_asm); (case zzX => k_asm); (case zzN => k_asm); (case zzT => k_asm); (case zzhk => exact rfl); (case zzU => k_updF); (case zzhl => k_asm); (case zzhi => k_asm); (case zzhn => k_asm); (case zzh0 => omega); (case zzhx0 => omega); (case zzhx1 => omega); (case zzhk0 => omega); (case zzhd => ktr_room); (case zzhu => ktr_units)); (try clear zb3); (try clear zb4); (try clear zb5); intro zr zu zi zx zti ztx zh ztk zb1 zb2 zb3 zb4 zb5 zF zN; (try dsimp only at zN); (try k_sweep)) | (k_unfold; (try dsimp only)) | walk1 | dsimp only) | fail "no step")
              obtain ⟨nu2, hnu2⟩ := mutual_ buf (by omega)
              rw [List.append_assoc, show ((buf.length : Nat) : Int) + 2 = ((buf.length + 2 : Nat) : Int) from rfl]
              rename Fr _ _ _ _ => F6
              rename News _ _ _ _ => N6
              refine' refused_call (r := .refused) (n := nu2) (at_ := buf.length + 2) ?B F6 ?X N6 ?T ?XB ?TB ?D ?hk ?hd ?hu ?hbuf ?hU (fun _ _ e => nomatch e) (fun _ _ _ _ e => nomatch e) ?href (fun _ _ _ _ _ _ _ e => nomatch e)
              case hU => exact hnu2
              case B => k_asm
              case X => k_asm
              case T => k_asm
              case XB => k_asm
              case TB => k_asm
              case D => exact fun b hb => nomatch hb
              case hk => exact rfl
              case hd => ktr_room
              case hu => ktr_units
              case hbuf => simp only [List.length_append, List.length_cons, List.length_nil]; omega
              case href =>
                intro u9 h₁ h' tk' _ T5 F5 N5 B5
                obtain ⟨F8, N8⟩ := turn_nil T5 F5 N5
                clear T5 F5 N5 F6 N6 B5
                repeat' (first | ((fail_if_success (with_reducible show wpAny _ _ (call (Value.ref 129) _) _ _ _)); first | ((with_reducible show wpAny _ _ (getMethod (Value.str _ _) (Str.ofString "encode") _) _ _ _); k_dflt (refine getMethod_encode ?_)) | ((with_reducible show wpAny _ _ (binaryOp .Add (Value.bytes _ _) (Value.bytes _ _)) _ _ _); k_dflt (refine addL (by first | omega | (simp only [List.length_map, List.length_append, List.length_cons, List.length_nil, List.length_singleton]; omega)) ?_); intro zt zk) | ((with_reducible show wpAny _ _ (call (Value.builtin "len") _) _ _ _); k_dflt (refine lenL (by first | omega | (simp only [List.length_map, List.length_append, List.length_cons, List.length_nil, List.length_singleton]; omega)) ?_); intro zt zk) | ((with_reducible show wpAny _ _ (call (Value.ref 107) _) _ _ _); k_dflt (refine' next_call ?zzB ?zzF ?zzX ?zzN ?zzT ?zzhk ?zzhl ?zzhi ?zzhn ?zzU ?zzh0 ?zzhx0 ?zzhx1 ?zzhk0 ?zzhd ?zzhu ?_; (case zzB => k_asm); (case zzF => k_asm); (case zzX => k_asm); (case zzN => k_asm); (case zzT => k_asm); (case zzhk => exact rfl); (case zzU => k_updF); (case zzhl => k_asm); (case zzhi => k_asm); (case zzhn => k_asm); (case zzh0 => omega); (case zzhx0 => omega); (case zzhx1 => omega); (case zzhk0 => omega); (case zzhd => ktr_room); (case zzhu => ktr_units)); (try clear zb3); (try clear zb4); (try clear zb5); intro zr zu zi zx zti ztx zh ztk zb1 zb2 zb3 zb4 zb5 zF zN; (try dsimp only at zN); (try k_sweep)) | (k_unfold; (try dsimp only)) | walk1 | dsimp only) | fail "no step")
                obtain ⟨nu3, hnu3⟩ := behind_end buf
                rename Fr _ _ _ _ => F6
                rename News _ _ _ _ => N6
                refine' refused_call (r := .need) (n := nu3) (at_ := buf.length) ?B F6 ?X N6 ?T ?XB ?TB ?D ?hk ?hd ?hu ?hbuf ?hU (fun _ _ e => nomatch e) ?href (fun _ _ _ _ e => nomatch e) (fun _ _ _ _ _ _ _ e => nomatch e)
                case hU => exact hnu3
                case B => k_asm
                case X => k_asm
                case T => k_asm
                case XB => k_asm
                case TB => k_asm
                case D => exact fun b hb => nomatch hb
                case hk => exact rfl
                case hd => ktr_room
                case hu => ktr_units
                case hbuf => omega
                case href =>
                  intro u9 h₁ h' tk' _ T5 F5 N5 B5
                  obtain ⟨F8, N8⟩ := turn_nil T5 F5 N5
                  clear T5 F5 N5 F6 N6 B5
                  have N9 : News s1.heap s1.heap.objs.size _ [(st, stObj sc i3 ti3 x3 tx3)] := News.sub N8 (fun q hq => by rw [List.mem_singleton.mp hq]; k_mem)
                  clear N8
                  repeat' (first | ((fail_if_success (with_reducible show wpAny _ _ (getMethod _ _ _) _ _ _)); (fail_if_success (with_reducible show wpAny _ _ (eval (PySem.Expr.ListComp ..) _) _ _ _)); first | ((with_reducible show wpAny _ _ (getMethod (Value.str _ _) (Str.ofString "encode") _) _ _ _); k_dflt (refine getMethod_encode ?_)) | ((with_reducible show wpAny _ _ (binaryOp .Add (Value.bytes _ _) (Value.bytes _ _)) _ _ _); k_dflt (refine addL (by first | omega | (simp only [List.length_map, List.length_append, List.length_cons, List.length_nil, List.length_singleton]; omega)) ?_); intro zt zk) | ((with_reducible show wpAny _ _ (call (Value.builtin "len") _) _ _ _); k_dflt (refine lenL (by first | omega | (simp only [List.length_map, List.length_append, List.length_cons, List.length_nil, List.length_singleton]; omega)) ?_); intro zt zk) | ((with_reducible show wpAny _ _ (call (Value.ref 107) _) _ _ _); k_dflt (refine' next_call ?zzB ?zzF ?zzX ?zzN ?zzT ?zzhk ?zzhl ?zzhi ?zzhn ?zzU ?zzh0 ?zzhx0 ?zzhx1 ?zzhk0 ?zzhd ?zzhu ?_; (case zzB => k_asm); (case zzF => k_asm); (case zzX => k_asm); (case zzN => k_asm); (case zzT => k_asm); (case zzhk => exact rfl); (case zzU => k_updF); (case zzhl => k_asm); (case zzhi => k_asm); (case zzhn => k_asm); (case zzh0 => omega); (case zzhx0 => omega); (case zzhx1 => omega); (case zzhk0 => omega); (case zzhd => ktr_room); (case zzhu => ktr_units)); (try clear zb3); (try clear zb4); (try clear zb5); intro zr zu zi zx zti ztx zh ztk zb1 zb2 zb3 zb4 zb5 zF zN; (try dsimp only at zN); (try k_sweep)) | (k_unfold; (try dsimp only)) | walk1 | dsimp only) | fail "no step")
                  refine getMethod_join (b := ([] : List UInt8).toArray) ?_
                  repeat' (first | ((fail_if_success (with_reducible show wpAny _ _ (eval (PySem.Expr.ListComp ..) _) _ _ _)); first | ((with_reducible show wpAny _ _ (getMethod (Value.str _ _) (Str.ofString "encode") _) _ _ _); k_dflt (refine getMethod_encode ?_)) | ((with_reducible show wpAny _ _ (binaryOp .Add (Value.bytes _ _) (Value.bytes _ _)) _ _ _); k_dflt (refine addL (by first | omega | (simp only [List.length_map, List.length_append, List.length_cons, List.length_nil, List.length_singleton]; omega)) ?_); intro zt zk) | ((with_reducible show wpAny _ _ (call (Value.builtin "len") _) _ _ _); k_dflt (refine lenL (by first | omega | (simp only [List.length_map, List.length_append, List.length_cons, List.length_nil, List.length_singleton]; omega)) ?_); intro zt zk) | ((with_reducible show wpAny _ _ (call (Value.ref 107) _) _ _ _); k_dflt (refine' next_call ?zzB ?zzF ?zzX ?zzN ?zzT ?zzhk ?zzhl ?zzhi ?zzhn ?zzU ?zzh0 ?zzhx0 ?zzhx1 ?zzhk0 ?zzhd ?zzhu ?_; (case zzB => k_asm); (case zzF => k_asm); (case zzX => k_asm); (case zzN => k_asm); (case zzT => k_asm); (case zzhk => exact rfl); (case zzU => k_updF); (case zzhl => k_asm); (case zzhi => k_asm); (case zzhn => k_asm); (case zzh0 => omega); (case zzhx0 => omega); (case zzhx1 => omega); (case zzhk0 => omega); (case zzhd => ktr_room); (case zzhu => ktr_units)); (try clear zb3); (try clear zb4); (try clear zb5); intro zr zu zi zx zti ztx zh ztk zb1 zb2 zb3 zb4 zb5 zF zN; (try dsimp only at zN); (try k_sweep)) | (k_unfold; (try dsimp only)) | walk1 | dsimp only) | fail "no step")
                  rename Fr _ _ _ _ => F6
                  rename News _ _ _ _ => N6
                  rename _ < (22 : Int) => hb2
                  obtain ⟨rn, lv, hrn, ern, N7, hil⟩ := labels_at N6 (by assumption) hb2
                  clear N6
                  subst ern
                  refine LCg.ListComp_U F6 (by with_unfolding_all rfl) (by decide) (by rfl) (by decide) (by rfl) ?_
                  repeat' (first | ((fail_if_success (with_reducible show CompSrc ..)); first | ((with_reducible show wpAny _ _ (getMethod (Value.str _ _) (Str.ofString "encode") _) _ _ _); k_dflt (refine getMethod_encode ?_)) | ((with_reducible show wpAny _ _ (binaryOp .Add (Value.bytes _ _) (Value.bytes _ _)) _ _ _); k_dflt (refine addL (by first | omega | (simp only [List.length_map, List.length_append, List.length_cons, List.length_nil, List.length_singleton]; omega)) ?_); intro zt zk) | ((with_reducible show wpAny _ _ (call (Value.builtin "len") _) _ _ _); k_dflt (refine lenL (by first | omega | (simp only [List.length_map, List.length_append, List.length_cons, List.length_nil, List.length_singleton]; omega)) ?_); intro zt zk) | ((with_reducible show wpAny _ _ (call (Value.ref 107) _) _ _ _); k_dflt (refine' next_call ?zzB ?zzF ?zzX ?zzN ?zzT ?zzhk ?zzhl ?zzhi ?zzhn ?zzU ?zzh0 ?zzhx0 ?zzhx1 ?zzhk0 ?zzhd ?zzhu ?_; (case zzB => k_asm); (case zzF => k_asm); (case zzX => k_asm); (case zzN => k_asm); (case zzT => k_asm); (case zzhk => exact rfl); (case zzU => k_updF); (case zzhl => k_asm); (case zzhi => k_asm); (case zzhn => k_asm); (case zzh0 => omega); (case zzhx0 => omega); (case zzhx1 => omega); (case zzhk0 => omega); (case zzhd => ktr_room); (case zzhu => ktr_units)); (try clear zb3); (try clear zb4); (try clear zb5); intro zr zu zi zx zti ztx zh ztk zb1 zb2 zb3 zb4 zb5 zF zN; (try dsimp only at zN); (try k_sweep)) | (k_unfold; (try dsimp only)) | walk1 | dsimp only) | fail "no step")
                  have hll := hil.length
                  have hll5 : lv.length = 5 := by rw [hll]; rfl
                  refine CompSrc.ledger rfl (by k_asm) N7 (.head _) (by simp [sizeLine_eq, hll5]) fun g => ?_
                  refine rest_inv (n := 5) (fun i ys => ∃ ls : List (List UInt8 × Tok), ys = bv ls ∧ ls.map (·.1) = ((csL rn).take i).map encB) (.inr ⟨_, .head _, rfl, _, rfl⟩) ?_ ?_ _ 0 [] (by simp [hll5]) ⟨[], rfl, rfl⟩
                  · intro i ys v I oI C oC D m₂ h tk E' hi hJ hP hC hm F N
                    obtain ⟨ls, rfl, hls9⟩ := hJ
                    obtain ⟨kk, tt, hkk, rfl⟩ := ints_at hil (i := i) (v := v) (by simpa using hP)
                    obtain ⟨hk1, hk63⟩ := nsL_ok hrn kk (List.mem_of_getElem? hkk)
                    clear F6 N7
                    try dsimp only
                    repeat' (first | ((fail_if_success (with_reducible show wpAny _ _ (call (Value.type "bytes") [Value.ref _]) _ _ _)); first | ((with_reducible show wpAny _ _ (getMethod (Value.str _ _) (Str.ofString "encode") _) _ _ _); k_dflt (refine getMethod_encode ?_)) | ((with_reducible show wpAny _ _ (binaryOp .Add (Value.bytes _ _) (Value.bytes _ _)) _ _ _); k_dflt (refine addL (by first | omega | (simp only [List.length_map, List.length_append, List.length_cons, List.length_nil, List.length_singleton]; omega)) ?_); intro zt zk) | ((with_reducible show wpAny _ _ (call (Value.builtin "len") _) _ _ _); k_dflt (refine lenL (by first | omega | (simp only [List.length_map, List.length_append, List.length_cons, List.length_nil, List.length_singleton]; omega)) ?_); intro zt zk) | ((with_reducible show wpAny _ _ (call (Value.ref 107) _) _ _ _); k_dflt (refine' next_call ?zzB ?zzF ?zzX ?zzN ?zzT ?zzhk ?zzhl ?zzhi ?zzhn ?zzU ?zzh0 ?zzhx0 ?zzhx1 ?zzhk0 ?zzhd ?zzhu ?_; (case zzB => k_asm); (case zzF => k_asm); (case zzX => k_asm); (case zzN => k_asm); (case zzT => k_asm); (case zzhk => exact rfl); (case zzU => k_updF); (case zzhl => k_asm); (case zzhi => k_asm); (case zzhn => k_asm); (case zzh0 => omega); (case zzhx0 => omega); (case zzhx1 => omega); (case zzhk0 => omega); (case zzhd => ktr_room); (case zzhu => ktr_units)); (try clear zb3); (try clear zb4); (try clear zb5); intro zr zu zi zx zti ztx zh ztk zb1 zb2 zb3 zb4 zb5 zF zN; (try dsimp only at zN); (try k_sweep)) | (k_unfold; (try dsimp only)) | walk1 | dsimp only) | fail "no step")
                    rename Fr _ _ _ _ => F6
                    rename News _ _ _ _ => N6
                    refine bytes_K (ns := [((kk : Nat) : Int)]) F6 N6 (N6.isList (n := 0) (.head _)) (.cons _ _ .nil) (fun n hn => by rw [List.mem_singleton.mp hn]; omega) (by simp [sizeLine_eq]) rfl ?_
                    intro h10 t10 kk10 F10 N10 _
                    rw [show ([((kk : Nat) : Int)].map fun n => n.toNat.toUInt8) = [kk.toUInt8] from by simp]
                    clear F6 N6
                    repeat' (first | ((fail_if_success (with_reducible show wpAny _ _ (binaryOp .Mult _ _) _ _ _)); first | ((with_reducible show wpAny _ _ (getMethod (Value.str _ _) (Str.ofString "encode") _) _ _ _); k_dflt (refine getMethod_encode ?_)) | ((with_reducible show wpAny _ _ (binaryOp .Add (Value.bytes _ _) (Value.bytes _ _)) _ _ _); k_dflt (refine addL (by first | omega | (simp only [List.length_map, List.length_append, List.length_cons, List.length_nil, List.length_singleton]; omega)) ?_); intro zt zk) | ((with_reducible show wpAny _ _ (call (Value.builtin "len") _) _ _ _); k_dflt (refine lenL (by first | omega | (simp only [List.length_map, List.length_append, List.length_cons, List.length_nil, List.length_singleton]; omega)) ?_); intro zt zk) | ((with_reducible show wpAny _ _ (call (Value.ref 107) _) _ _ _); k_dflt (refine' next_call ?zzB ?zzF ?zzX ?zzN ?zzT ?zzhk ?zzhl ?zzhi ?zzhn ?zzU ?zzh0 ?zzhx0 ?zzhx1 ?zzhk0 ?zzhd ?zzhu ?_; (case zzB => k_asm); (case zzF => k_asm); (case zzX => k_asm); (case zzN => k_asm); (case zzT => k_asm); (case zzhk => exact rfl); (case zzU => k_updF); (case zzhl => k_asm); (case zzhi => k_asm); (case zzhn => k_asm); (case zzh0 => omega); (case zzhx0 => omega); (case zzhx1 => omega); (case zzhk0 => omega); (case zzhd => ktr_room); (case zzhu => ktr_units)); (try clear zb3); (try clear zb4); (try clear zb5); intro zr zu zi zx zti ztx zh ztk zb1 zb2 zb3 zb4 zb5 zF zN; (try dsimp only at zN); (try k_sweep)) | (k_unfold; (try dsimp only)) | walk1 | dsimp only) | fail "no step")
                    refine bytes_mul_any (b := [113]) (by simp) (by omega) (by omega) (by simp) fun t11 kk11 => ?_
                    rw [Int.toNat_natCast, rep_q]
                    have hqk := qb_len kk
                    refine addL (by rw [hqk]; simp; omega) fun t12 kk12 => ?_
                    refine ⟨⟨ls ++ [([kk.toUInt8] ++ qb kk, t12)], by simp [bv], ?_⟩, _, _, rfl, F10, News.sub N10 (fun q hq => .tail _ hq)⟩
                    rw [List.map_append, hls9, show (csL rn).take (i + 1) = (csL rn).take i ++ [qb kk] from take_next (by rw [csL, List.getElem?_map, hkk]; rfl), List.map_append]
                    simp [encB, hqk]
                  · intro ys hJ D h tk F N o1
                    obtain ⟨ls, rfl, hls9⟩ := hJ
                    rw [show (csL rn).take 5 = csL rn from rfl] at hls9
                    have hol : (((csL rn).map encB).flatten).length = 254 := by rw [encB_len]; exact csL_sum hrn
                    try dsimp only
                    repeat' (first | ((fail_if_success (with_reducible show wpAny _ _ (call (Value.builtin "bytes.join") _) _ _ _)); first | ((with_reducible show wpAny _ _ (getMethod (Value.str _ _) (Str.ofString "encode") _) _ _ _); k_dflt (refine getMethod_encode ?_)) | ((with_reducible show wpAny _ _ (binaryOp .Add (Value.bytes _ _) (Value.bytes _ _)) _ _ _); k_dflt (refine addL (by first | omega | (simp only [List.length_map, List.length_append, List.length_cons, List.length_nil, List.length_singleton]; omega)) ?_); intro zt zk) | ((with_reducible show wpAny _ _ (call (Value.builtin "len") _) _ _ _); k_dflt (refine lenL (by first | omega | (simp only [List.length_map, List.length_append, List.length_cons, List.length_nil, List.length_singleton]; omega)) ?_); intro zt zk) | ((with_reducible show wpAny _ _ (call (Value.ref 107) _) _ _ _); k_dflt (refine' next_call ?zzB ?zzF ?zzX ?zzN ?zzT ?zzhk ?zzhl ?zzhi ?zzhn ?zzU ?zzh0 ?zzhx0 ?zzhx1 ?zzhk0 ?zzhd ?zzhu ?_; (case zzB => k_asm); (case zzF => k_asm); (case zzX => k_asm); (case zzN => k_asm); (case zzT => k_asm); (case zzhk => exact rfl); (case zzU => k_updF); (case zzhl => k_asm); (case zzhi => k_asm); (case zzhn => k_asm); (case zzh0 => omega); (case zzhx0 => omega); (case zzhx1 => omega); (case zzhk0 => omega); (case zzhd => ktr_room); (case zzhu => ktr_units)); (try clear zb3); (try clear zb4); (try clear zb5); intro zr zu zi zx zti ztx zh ztk zb1 zb2 zb3 zb4 zb5 zF zN; (try dsimp only at zN); (try k_sweep)) | (k_unfold; (try dsimp only)) | walk1 | dsimp only) | fail "no step")
                    rename News _ _ _ _ => N6
                    refine call_join (sep := []) (N6.isList (n := (bv ls).length) (.head _)) (by rw [bv_sum hls9, hol]; simp) fun t12 k12 => ?_
                    rw [joinL_nil, hls9]
                    have N9 : News s1.heap s1.heap.objs.size _ [(_, listOf lv.toArray 0), (st, stObj sc _ _ _ _)] := News.sub N6 (fun q hq => .tail _ hq)
                    clear N6 N7 F6
                    try clear N
                    repeat' (first | ((fail_if_success (with_reducible show wpAny _ _ (call (Value.ref 129) _) _ _ _)); first | ((with_reducible show wpAny _ _ (getMethod (Value.str _ _) (Str.ofString "encode") _) _ _ _); k_dflt (refine getMethod_encode ?_)) | ((with_reducible show wpAny _ _ (binaryOp .Add (Value.bytes _ _) (Value.bytes _ _)) _ _ _); k_dflt (refine addL (by first | omega | (simp only [List.length_map, List.length_append, List.length_cons, List.length_nil, List.length_singleton]; omega)) ?_); intro zt zk) | ((with_reducible show wpAny _ _ (call (Value.builtin "len") _) _ _ _); k_dflt (refine lenL (by first | omega | (simp only [List.length_map, List.length_append, List.length_cons, List.length_nil, List.length_singleton]; omega)) ?_); intro zt zk) | ((with_reducible show wpAny _ _ (call (Value.ref 107) _) _ _ _); k_dflt (refine' next_call ?zzB ?zzF ?zzX ?zzN ?zzT ?zzhk ?zzhl ?zzhi ?zzhn ?zzU ?zzh0 ?zzhx0 ?zzhx1 ?zzhk0 ?zzhd ?zzhu ?_; (case zzB => k_asm); (case zzF => k_asm); (case zzX => k_asm); (case zzN => k_asm); (case zzT => k_asm); (case zzhk => exact rfl); (case zzU => k_updF); (case zzhl => k_asm); (case zzhi => k_asm); (case zzhn => k_asm); (case zzh0 => omega); (case zzhx0 => omega); (case zzhx1 => omega); (case zzhk0 => omega); (case zzhd => ktr_room); (case zzhu => ktr_units)); (try clear zb3); (try clear zb4); (try clear zb5); intro zr zu zi zx zti ztx zh ztk zb1 zb2 zb3 zb4 zb5 zF zN; (try dsimp only at zN); (try k_sweep)) | (k_unfold; (try dsimp only)) | walk1 | dsimp only) | fail "no step")
                    obtain ⟨nu5, hnu5⟩ := most buf (csL rn) (csL_ok hrn) (by rw [csL_sum hrn]; omega)
                    rw [List.append_assoc]
                    rename Fr _ _ _ _ => F6
                    rename News _ _ _ _ => N6
                    refine' refused_call (r := .done (csL rn) (buf.length + sumB (csL rn) + 1)) (n := nu5) (at_ := buf.length) ?B F6 ?X N6 ?T ?XB ?TB ?D ?hk ?hd ?hu ?hbuf ?hU ?hasc (fun _ _ _ _ e => nomatch e) (fun _ _ _ _ e => nomatch e) ?hdone
                    case hU => exact hnu5
                    case B => k_asm
                    case X => k_asm
                    case T => k_asm
                    case XB => k_asm
                    case TB => k_asm
                    case D => exact fun b hb => nomatch hb
                    case hk => exact rfl
                    case hd => ktr_room
                    case hu => ktr_units
                    case hbuf => simp only [List.length_append, List.length_cons, List.length_nil]; omega
                    case hasc => intro name sv e; cases e; exact csL_asc rn
                    case hdone =>
                      rintro name sv T9 t9 t10 h' tk' hr hT F3 N3 l3
                      cases hr
                      rw [join_csL] at N3
                      clear F6 N6
                      try dsimp only
                      repeat' (first | ((fail_if_success (with_reducible show wpAny _ _ (eval (PySem.Expr.ListComp ..) _) _ _ _)); first | ((with_reducible show wpAny _ _ (getMethod (Value.str _ _) (Str.ofString "encode") _) _ _ _); k_dflt (refine getMethod_encode ?_)) | ((with_reducible show wpAny _ _ (binaryOp .Add (Value.bytes _ _) (Value.bytes _ _)) _ _ _); k_dflt (refine addL (by first | omega | (simp only [List.length_map, List.length_append, List.length_cons, List.length_nil, List.length_singleton]; omega)) ?_); intro zt zk) | ((with_reducible show wpAny _ _ (call (Value.builtin "len") _) _ _ _); k_dflt (refine lenL (by first | omega | (simp only [List.length_map, List.length_append, List.length_cons, List.length_nil, List.length_singleton]; omega)) ?_); intro zt zk) | ((with_reducible show wpAny _ _ (call (Value.ref 107) _) _ _ _); k_dflt (refine' next_call ?zzB ?zzF ?zzX ?zzN ?zzT ?zzhk ?zzhl ?zzhi ?zzhn ?zzU ?zzh0 ?zzhx0 ?zzhx1 ?zzhk0 ?zzhd ?zzhu ?_; (case zzB => k_asm); (case zzF => k_asm); (case zzX => k_asm); (case zzN => k_asm); (case zzT => k_asm); (case zzhk => exact rfl); (case zzU => k_updF); (case zzhl => k_asm); (case zzhi => k_asm); (case zzhn => k_asm); (case zzh0 => omega); (case zzhx0 => omega); (case zzhx1 => omega); (case zzhk0 => omega); (case zzhd => ktr_room); (case zzhu => ktr_units)); (try clear zb3); (try clear zb4); (try clear zb5); intro zr zu zi zx zti ztx zh ztk zb1 zb2 zb3 zb4 zb5 zF zN; (try dsimp only at zN); (try k_sweep)) | (k_unfold; (try dsimp only)) | walk1 | dsimp only) | fail "no step")
                      rename Fr _ _ _ _ => F6
                      refine LCg.ListComp_U F6 (by with_unfolding_all rfl) (by decide) (by rfl) (by decide) (by rfl) ?_
                      repeat' (first | ((fail_if_success (with_reducible show CompSrc ..)); first | ((with_reducible show wpAny _ _ (getMethod (Value.str _ _) (Str.ofString "encode") _) _ _ _); k_dflt (refine getMethod_encode ?_)) | ((with_reducible show wpAny _ _ (binaryOp .Add (Value.bytes _ _) (Value.bytes _ _)) _ _ _); k_dflt (refine addL (by first | omega | (simp only [List.length_map, List.length_append, List.length_cons, List.length_nil, List.length_singleton]; omega)) ?_); intro zt zk) | ((with_reducible show wpAny _ _ (call (Value.builtin "len") _) _ _ _); k_dflt (refine lenL (by first | omega | (simp only [List.length_map, List.length_append, List.length_cons, List.length_nil, List.length_singleton]; omega)) ?_); intro zt zk) | ((with_reducible show wpAny _ _ (call (Value.ref 107) _) _ _ _); k_dflt (refine' next_call ?zzB ?zzF ?zzX ?zzN ?zzT ?zzhk ?zzhl ?zzhi ?zzhn ?zzU ?zzh0 ?zzhx0 ?zzhx1 ?zzhk0 ?zzhd ?zzhu ?_; (case zzB => k_asm); (case zzF => k_asm); (case zzX => k_asm); (case zzN => k_asm); (case zzT => k_asm); (case zzhk => exact rfl); (case zzU => k_updF); (case zzhl => k_asm); (case zzhi => k_asm); (case zzhn => k_asm); (case zzh0 => omega); (case zzhx0 => omega); (case zzhx1 => omega); (case zzhk0 => omega); (case zzhd => ktr_room); (case zzhu => ktr_units)); (try clear zb3); (try clear zb4); (try clear zb5); intro zr zu zi zx zti ztx zh ztk zb1 zb2 zb3 zb4 zb5 zF zN; (try dsimp only at zN); (try k_sweep)) | (k_unfold; (try dsimp only)) | walk1 | dsimp only) | fail "no step")
                      rename Fr _ _ _ _ => F6
                      rename News _ _ _ _ => N6
                      refine CompSrc.ledger rfl (by k_asm) N6 (.tail _ (.head _)) (by simp [sizeLine_eq, hll5]) fun g => ?_
                      refine rest_inv (n := 5) (fun i ys => ∃ l : List (Str × Tok), ys = strValues l ∧ cpsOf l = ((nsL rn).take i).map qs) (.inr ⟨_, .tail _ (.head _), rfl, _, rfl⟩) ?_ ?_ _ 0 [] (by simp [hll5]) ⟨[], rfl, rfl⟩
                      · intro i ys v I oI C oC D m₂ h tk E' hi hJ hP hC hm F N
                        obtain ⟨l8, rfl, hl8⟩ := hJ
                        obtain ⟨kk, tt, hkk, rfl⟩ := ints_at hil (i := i) (v := v) (by simpa using hP)
                        obtain ⟨hk1, hk63⟩ := nsL_ok hrn kk (List.mem_of_getElem? hkk)
                        try dsimp only
                        repeat' (first | ((fail_if_success (with_reducible show wpAny _ _ (binaryOp .Mult _ _) _ _ _)); first | ((with_reducible show wpAny _ _ (getMethod (Value.str _ _) (Str.ofString "encode") _) _ _ _); k_dflt (refine getMethod_encode ?_)) | ((with_reducible show wpAny _ _ (binaryOp .Add (Value.bytes _ _) (Value.bytes _ _)) _ _ _); k_dflt (refine addL (by first | omega | (simp only [List.length_map, List.length_append, List.length_cons, List.length_nil, List.length_singleton]; omega)) ?_); intro zt zk) | ((with_reducible show wpAny _ _ (call (Value.builtin "len") _) _ _ _); k_dflt (refine lenL (by first | omega | (simp only [List.length_map, List.length_append, List.length_cons, List.length_nil, List.length_singleton]; omega)) ?_); intro zt zk) | ((with_reducible show wpAny _ _ (call (Value.ref 107) _) _ _ _); k_dflt (refine' next_call ?zzB ?zzF ?zzX ?zzN ?zzT ?zzhk ?zzhl ?zzhi ?zzhn ?zzU ?zzh0 ?zzhx0 ?zzhx1 ?zzhk0 ?zzhd ?zzhu ?_; (case zzB => k_asm); (case zzF => k_asm); (case zzX => k_asm); (case zzN => k_asm); (case zzT => k_asm); (case zzhk => exact rfl); (case zzU => k_updF); (case zzhl => k_asm); (case zzhi => k_asm); (case zzhn => k_asm); (case zzh0 => omega); (case zzhx0 => omega); (case zzhx1 => omega); (case zzhk0 => omega); (case zzhd => ktr_room); (case zzhu => ktr_units)); (try clear zb3); (try clear zb4); (try clear zb5); intro zr zu zi zx zti ztx zh ztk zb1 zb2 zb3 zb4 zb5 zF zN; (try dsimp only at zN); (try k_sweep)) | (k_unfold; (try dsimp only)) | walk1 | dsimp only) | fail "no step")
                        rename Fr _ _ _ _ => F7
                        rename News _ _ _ _ => N7
                        refine mul_q hk1 hk63 fun t11 kk11 => ?_
                        refine ⟨⟨l8 ++ [(sOf (qs kk), t11)], by simp [strValues], ?_⟩, _, _, rfl, F7, N7⟩
                        rw [cpsOf_append, hl8, take_next hkk, List.map_append]
                        rfl
                      · intro ys hJ D h tk F N o1
                        obtain ⟨l8, rfl, hl8⟩ := hJ
                        rw [show (nsL rn).take 5 = nsL rn from rfl] at hl8
                        try dsimp only
                        clear F6 N6
                        repeat' (first | ((fail_if_success (with_reducible show wpAny _ _ (call (Value.builtin "str.join") _) _ _ _)); first | ((with_reducible show wpAny _ _ (getMethod (Value.str _ _) (Str.ofString "encode") _) _ _ _); k_dflt (refine getMethod_encode ?_)) | ((with_reducible show wpAny _ _ (binaryOp .Add (Value.bytes _ _) (Value.bytes _ _)) _ _ _); k_dflt (refine addL (by first | omega | (simp only [List.length_map, List.length_append, List.length_cons, List.length_nil, List.length_singleton]; omega)) ?_); intro zt zk) | ((with_reducible show wpAny _ _ (call (Value.builtin "len") _) _ _ _); k_dflt (refine lenL (by first | omega | (simp only [List.length_map, List.length_append, List.length_cons, List.length_nil, List.length_singleton]; omega)) ?_); intro zt zk) | ((with_reducible show wpAny _ _ (call (Value.ref 107) _) _ _ _); k_dflt (refine' next_call ?zzB ?zzF ?zzX ?zzN ?zzT ?zzhk ?zzhl ?zzhi ?zzhn ?zzU ?zzh0 ?zzhx0 ?zzhx1 ?zzhk0 ?zzhd ?zzhu ?_; (case zzB => k_asm); (case zzF => k_asm); (case zzX => k_asm); (case zzN => k_asm); (case zzT => k_asm); (case zzhk => exact rfl); (case zzU => k_updF); (case zzhl => k_asm); (case zzhi => k_asm); (case zzhn => k_asm); (case zzh0 => omega); (case zzhx0 => omega); (case zzhx1 => omega); (case zzhk0 => omega); (case zzhd => ktr_room); (case zzhu => ktr_units)); (try clear zb3); (try clear zb4); (try clear zb5); intro zr zu zi zx zti ztx zh ztk zb1 zb2 zb3 zb4 zb5 zF zN; (try dsimp only at zN); (try k_sweep)) | (k_unfold; (try dsimp only)) | walk1 | dsimp only) | fail "no step")
                        rename News _ _ _ _ => N6
                        refine call_joinS (l := l8) (N6.isList (n := (strValues l8).length) (.head _)) (by rw [hl8, sumL_qs hrn]; omega) fun t14 k14 => ?_
                        rw [hl8]
                        repeat' (first | ((fail_if_success (with_reducible show wpAny _ _ (compareOp ..) _ _ _)); first | ((with_reducible show wpAny _ _ (getMethod (Value.str _ _) (Str.ofString "encode") _) _ _ _); k_dflt (refine getMethod_encode ?_)) | ((with_reducible show wpAny _ _ (binaryOp .Add (Value.bytes _ _) (Value.bytes _ _)) _ _ _); k_dflt (refine addL (by first | omega | (simp only [List.length_map, List.length_append, List.length_cons, List.length_nil, List.length_singleton]; omega)) ?_); intro zt zk) | ((with_reducible show wpAny _ _ (call (Value.builtin "len") _) _ _ _); k_dflt (refine lenL (by first | omega | (simp only [List.length_map, List.length_append, List.length_cons, List.length_nil, List.length_singleton]; omega)) ?_); intro zt zk) | ((with_reducible show wpAny _ _ (call (Value.ref 107) _) _ _ _); k_dflt (refine' next_call ?zzB ?zzF ?zzX ?zzN ?zzT ?zzhk ?zzhl ?zzhi ?zzhn ?zzU ?zzh0 ?zzhx0 ?zzhx1 ?zzhk0 ?zzhd ?zzhu ?_; (case zzB => k_asm); (case zzF => k_asm); (case zzX => k_asm); (case zzN => k_asm); (case zzT => k_asm); (case zzhk => exact rfl); (case zzU => k_updF); (case zzhl => k_asm); (case zzhi => k_asm); (case zzhn => k_asm); (case zzh0 => omega); (case zzhx0 => omega); (case zzhx1 => omega); (case zzhk0 => omega); (case zzhd => ktr_room); (case zzhu => ktr_units)); (try clear zb3); (try clear zb4); (try clear zb5); intro zr zu zi zx zti ztx zh ztk zb1 zb2 zb3 zb4 zb5 zF zN; (try dsimp only at zN); (try k_sweep)) | (k_unfold; (try dsimp only)) | walk1 | dsimp only) | fail "no step")
                        rename Fr _ _ _ _ => F6
                        rename News _ _ _ _ => N6
                        rw [show ((buf.length : Nat) : Int) + (((((csL rn).map encB).flatten).length : Nat) : Int) + 1 = ((buf.length + sumB (csL rn) + 1 : Nat) : Int) from by rw [encB_len]; omega] at N6
                        refine ne_pair (x := joinL [46] ((nsL rn).map qs)) N6 (.tail _ (.tail _ (.head _))) (.head _) (join_qs_lt _) (by ktr_units) ?_
                        repeat' (first | ((fail_if_success (with_reducible show wpAny _ _ (exec (Stmt.Assign ..) _) _ _ _)); first | ((with_reducible show wpAny _ _ (getMethod (Value.str _ _) (Str.ofString "encode") _) _ _ _); k_dflt (refine getMethod_encode ?_)) | ((with_reducible show wpAny _ _ (binaryOp .Add (Value.bytes _ _) (Value.bytes _ _)) _ _ _); k_dflt (refine addL (by first | omega | (simp only [List.length_map, List.length_append, List.length_cons, List.length_nil, List.length_singleton]; omega)) ?_); intro zt zk) | ((with_reducible show wpAny _ _ (call (Value.builtin "len") _) _ _ _); k_dflt (refine lenL (by first | omega | (simp only [List.length_map, List.length_append, List.length_cons, List.length_nil, List.length_singleton]; omega)) ?_); intro zt zk) | ((with_reducible show wpAny _ _ (call (Value.ref 107) _) _ _ _); k_dflt (refine' next_call ?zzB ?zzF ?zzX ?zzN ?zzT ?zzhk ?zzhl ?zzhi ?zzhn ?zzU ?zzh0 ?zzhx0 ?zzhx1 ?zzhk0 ?zzhd ?zzhu ?_; (case zzB => k_asm); (case zzF => k_asm); (case zzX => k_asm); (case zzN => k_asm); (case zzT => k_asm); (case zzhk => exact rfl); (case zzU => k_updF); (case zzhl => k_asm); (case zzhi => k_asm); (case zzhn => k_asm); (case zzh0 => omega); (case zzhx0 => omega); (case zzhx1 => omega); (case zzhk0 => omega); (case zzhd => ktr_room); (case zzhu => ktr_units)); (try clear zb3); (try clear zb4); (try clear zb5); intro zr zu zi zx zti ztx zh ztk zb1 zb2 zb3 zb4 zb5 zF zN; (try dsimp only at zN); (try k_sweep)) | (k_unfold; (try dsimp only)) | walk1 | dsimp only) | fail "no step")
                        rename Fr _ _ _ _ => F6
                        rename News _ _ _ _ => N6
                        have N9 : News s1.heap s1.heap.objs.size _ [(st, stObj sc _ _ _ _)] := News.sub N6 (fun q hq => by rw [List.mem_singleton.mp hq]; k_mem)
                        clear N6
                        obtain ⟨O, X4, Qk, c8, hf, rs, eO, hO, ers, e2, hf1, hf2, eX, hX4, ec8, eQk, hQk, nu7, hnu7⟩ := size_facts buf hrn
                        have hOf : ((O.length : Nat) : Int) - ((hf : Nat) : Int) = ((O.length - hf : Nat) : Int) := nat_sub (by rw [hO]; exact Nat.le_trans hf2 (by decide))
                        have hO2 : O.length ≤ 254 := Nat.le_of_eq hO
                        have hQk2 : Qk.length ≤ 63 := by rw [hQk]; exact Nat.succ_le_succ hf2
                        have hfa := hf_in hf2
                        have hfb := hf_lo hf
                        have hfc := hf_hi hf2
                        clear hO hQk hf1 hf2
                        rw [ers, eO] at F6
                        try dsimp only
                        repeat' (first | ((fail_if_success (with_reducible show wpAny _ _ (subscriptTail _ (PySem.Expr.Slice ..) _ _) _ _ _)); first | ((with_reducible show wpAny _ _ (getMethod (Value.str _ _) (Str.ofString "encode") _) _ _ _); k_dflt (refine getMethod_encode ?_)) | ((with_reducible show wpAny _ _ (binaryOp .Add (Value.bytes _ _) (Value.bytes _ _)) _ _ _); k_dflt (refine addL (by first | omega | (simp only [List.length_map, List.length_append, List.length_cons, List.length_nil, List.length_singleton]; omega)) ?_); intro zt zk) | ((with_reducible show wpAny _ _ (call (Value.builtin "len") _) _ _ _); k_dflt (refine lenL (by first | omega | (simp only [List.length_map, List.length_append, List.length_cons, List.length_nil, List.length_singleton]; omega)) ?_); intro zt zk) | ((with_reducible show wpAny _ _ (call (Value.ref 107) _) _ _ _); k_dflt (refine' next_call ?zzB ?zzF ?zzX ?zzN ?zzT ?zzhk ?zzhl ?zzhi ?zzhn ?zzU ?zzh0 ?zzhx0 ?zzhx1 ?zzhk0 ?zzhd ?zzhu ?_; (case zzB => k_asm); (case zzF => k_asm); (case zzX => k_asm); (case zzN => k_asm); (case zzT => k_asm); (case zzhk => exact rfl); (case zzU => k_updF); (case zzhl => k_asm); (case zzhi => k_asm); (case zzhn => k_asm); (case zzh0 => omega); (case zzhx0 => omega); (case zzhx1 => omega); (case zzhk0 => omega); (case zzhd => ktr_room); (case zzhu => ktr_units)); (try clear zb3); (try clear zb4); (try clear zb5); intro zr zu zi zx zti ztx zh ztk zb1 zb2 zb3 zb4 zb5 zF zN; (try dsimp only at zN); (try k_sweep)) | (k_unfold; (try dsimp only)) | walk1 | dsimp only) | fail "no step")
                        rename Fr _ _ _ _ => F3
                        rename News _ _ _ _ => N3
                        refine sliceL F3 N3 (by constructor) (by constructor) (pick_j O (O.length - hf) (by rw [e2]; exact hOf)) (by omega) (fun h15 t15 k15 F15 N15 => ?_) (by with_unfolding_all rfl) (by intro _; with_unfolding_all rfl)
                        rw [eX]
                        clear F3 N3
                        try dsimp only
                        repeat' (first | ((fail_if_success (with_reducible show wpAny _ _ (call (Value.type "bytes") [Value.ref _]) _ _ _)); first | ((with_reducible show wpAny _ _ (getMethod (Value.str _ _) (Str.ofString "encode") _) _ _ _); k_dflt (refine getMethod_encode ?_)) | ((with_reducible show wpAny _ _ (binaryOp .Add (Value.bytes _ _) (Value.bytes _ _)) _ _ _); k_dflt (refine addL (by first | omega | (simp only [List.length_map, List.length_append, List.length_cons, List.length_nil, List.length_singleton]; omega)) ?_); intro zt zk) | ((with_reducible show wpAny _ _ (call (Value.builtin "len") _) _ _ _); k_dflt (refine lenL (by first | omega | (simp only [List.length_map, List.length_append, List.length_cons, List.length_nil, List.length_singleton]; omega)) ?_); intro zt zk) | ((with_reducible show wpAny _ _ (call (Value.ref 107) _) _ _ _); k_dflt (refine' next_call ?zzB ?zzF ?zzX ?zzN ?zzT ?zzhk ?zzhl ?zzhi ?zzhn ?zzU ?zzh0 ?zzhx0 ?zzhx1 ?zzhk0 ?zzhd ?zzhu ?_; (case zzB => k_asm); (case zzF => k_asm); (case zzX => k_asm); (case zzN => k_asm); (case zzT => k_asm); (case zzhk => exact rfl); (case zzU => k_updF); (case zzhl => k_asm); (case zzhi => k_asm); (case zzhn => k_asm); (case zzh0 => omega); (case zzhx0 => omega); (case zzhx1 => omega); (case zzhk0 => omega); (case zzhd => ktr_room); (case zzhu => ktr_units)); (try clear zb3); (try clear zb4); (try clear zb5); intro zr zu zi zx zti ztx zh ztk zb1 zb2 zb3 zb4 zb5 zF zN; (try dsimp only at zN); (try k_sweep)) | (k_unfold; (try dsimp only)) | walk1 | dsimp only) | fail "no step")
                        rename Fr _ _ _ _ => F3
                        rename News _ _ _ _ => N3
                        refine bytes_K (ns := [rs.fdiv 2 + 1]) F3 N3 (N3.isList (n := 0) (.head _)) (.cons _ _ .nil) (fun n hn => by rw [List.mem_singleton.mp hn, e2]; exact hfa) (by simp [sizeLine_eq]) rfl ?_
                        intro h16 t16 k16 F16 N16 _
                        rw [show ([rs.fdiv 2 + 1].map fun n => n.toNat.toUInt8) = [c8] from by rw [← ec8, e2]; rfl]
                        clear F3 N3
                        try dsimp only
                        repeat' (first | ((fail_if_success (with_reducible show wpAny _ _ (binaryOp .Mult _ _) _ _ _)); first | ((with_reducible show wpAny _ _ (getMethod (Value.str _ _) (Str.ofString "encode") _) _ _ _); k_dflt (refine getMethod_encode ?_)) | ((with_reducible show wpAny _ _ (binaryOp .Add (Value.bytes _ _) (Value.bytes _ _)) _ _ _); k_dflt (refine addL (by first | omega | (simp only [List.length_map, List.length_append, List.length_cons, List.length_nil, List.length_singleton]; omega)) ?_); intro zt zk) | ((with_reducible show wpAny _ _ (call (Value.builtin "len") _) _ _ _); k_dflt (refine lenL (by first | omega | (simp only [List.length_map, List.length_append, List.length_cons, List.length_nil, List.length_singleton]; omega)) ?_); intro zt zk) | ((with_reducible show wpAny _ _ (call (Value.ref 107) _) _ _ _); k_dflt (refine' next_call ?zzB ?zzF ?zzX ?zzN ?zzT ?zzhk ?zzhl ?zzhi ?zzhn ?zzU ?zzh0 ?zzhx0 ?zzhx1 ?zzhk0 ?zzhd ?zzhu ?_; (case zzB => k_asm); (case zzF => k_asm); (case zzX => k_asm); (case zzN => k_asm); (case zzT => k_asm); (case zzhk => exact rfl); (case zzU => k_updF); (case zzhl => k_asm); (case zzhi => k_asm); (case zzhn => k_asm); (case zzh0 => omega); (case zzhx0 => omega); (case zzhx1 => omega); (case zzhk0 => omega); (case zzhd => ktr_room); (case zzhu => ktr_units)); (try clear zb3); (try clear zb4); (try clear zb5); intro zr zu zi zx zti ztx zh ztk zb1 zb2 zb3 zb4 zb5 zF zN; (try dsimp only at zN); (try k_sweep)) | (k_unfold; (try dsimp only)) | walk1 | dsimp only) | fail "no step")
                        refine bytes_mul_any (b := [113]) (by simp) (by rw [e2]; exact hfb) (by rw [e2]; exact hfc) (by simp) fun t17 kk17 => ?_
                        rw [e2, eQk]
                        try dsimp only
                        repeat' (first | ((fail_if_success (with_reducible show wpAny _ _ (call (Value.ref 129) _) _ _ _)); first | ((with_reducible show wpAny _ _ (getMethod (Value.str _ _) (Str.ofString "encode") _) _ _ _); k_dflt (refine getMethod_encode ?_)) | ((with_reducible show wpAny _ _ (binaryOp .Add (Value.bytes _ _) (Value.bytes _ _)) _ _ _); k_dflt (refine addL (by first | omega | (simp only [List.length_map, List.length_append, List.length_cons, List.length_nil, List.length_singleton]; omega)) ?_); intro zt zk) | ((with_reducible show wpAny _ _ (call (Value.builtin "len") _) _ _ _); k_dflt (refine lenL (by first | omega | (simp only [List.length_map, List.length_append, List.length_cons, List.length_nil, List.length_singleton]; omega)) ?_); intro zt zk) | ((with_reducible show wpAny _ _ (call (Value.ref 107) _) _ _ _); k_dflt (refine' next_call ?zzB ?zzF ?zzX ?zzN ?zzT ?zzhk ?zzhl ?zzhi ?zzhn ?zzU ?zzh0 ?zzhx0 ?zzhx1 ?zzhk0 ?zzhd ?zzhu ?_; (case zzB => k_asm); (case zzF => k_asm); (case zzX => k_asm); (case zzN => k_asm); (case zzT => k_asm); (case zzhk => exact rfl); (case zzU => k_updF); (case zzhl => k_asm); (case zzhi => k_asm); (case zzhn => k_asm); (case zzh0 => omega); (case zzhx0 => omega); (case zzhx1 => omega); (case zzhk0 => omega); (case zzhd => ktr_room); (case zzhu => ktr_units)); (try clear zb3); (try clear zb4); (try clear zb5); intro zr zu zi zx zti ztx zh ztk zb1 zb2 zb3 zb4 zb5 zF zN; (try dsimp only at zN); (try k_sweep)) | (k_unfold; (try dsimp only)) | walk1 | dsimp only) | fail "no step")
                        rename Fr _ _ _ _ => F6
                        rename News _ _ _ _ => N6
                        refine' refused_call (r := .refused) (n := nu7) (at_ := buf.length) ?B F6 ?X N6 ?T ?XB ?TB ?D ?hk ?hd ?hu ?hbuf ?hU (fun _ _ e => nomatch e) (fun _ _ _ _ e => nomatch e) ?href (fun _ _ _ _ _ _ _ e => nomatch e)
                        case hU => exact hnu7
                        case B => k_asm
                        case X => k_asm
                        case T => k_asm
                        case XB => k_asm
                        case TB => k_asm
                        case D => exact fun b hb => nomatch hb
                        case hk => exact rfl
                        case hd => ktr_room
                        case hu => ktr_units
                        case hbuf => simp only [List.length_append, List.length_cons, List.length_nil]; omega
                        case href =>
                          intro u9 h₁ h' tk' _ T5 F5 N5 B5
                          obtain ⟨F8, N8⟩ := turn_nil T5 F5 N5
                          clear T5 F5 N5 F6 N6 B5
                          try dsimp only
                          repeat' (first | ((fail_if_success (with_reducible show wpAny _ _ (binaryOp .Mult _ _) _ _ _)); first | ((with_reducible show wpAny _ _ (getMethod (Value.str _ _) (Str.ofString "encode") _) _ _ _); k_dflt (refine getMethod_encode ?_)) | ((with_reducible show wpAny _ _ (binaryOp .Add (Value.bytes _ _) (Value.bytes _ _)) _ _ _); k_dflt (refine addL (by first | omega | (simp only [List.length_map, List.length_append, List.length_cons, List.length_nil, List.length_singleton]; omega)) ?_); intro zt zk) | ((with_reducible show wpAny _ _ (call (Value.builtin "len") _) _ _ _); k_dflt (refine lenL (by first | omega | (simp only [List.length_map, List.length_append, List.length_cons, List.length_nil, List.length_singleton]; omega)) ?_); intro zt zk) | ((with_reducible show wpAny _ _ (call (Value.ref 107) _) _ _ _); k_dflt (refine' next_call ?zzB ?zzF ?zzX ?zzN ?zzT ?zzhk ?zzhl ?zzhi ?zzhn ?zzU ?zzh0 ?zzhx0 ?zzhx1 ?zzhk0 ?zzhd ?zzhu ?_; (case zzB => k_asm); (case zzF => k_asm); (case zzX => k_asm); (case zzN => k_asm); (case zzT => k_asm); (case zzhk => exact rfl); (case zzU => k_updF); (case zzhl => k_asm); (case zzhi => k_asm); (case zzhn => k_asm); (case zzh0 => omega); (case zzhx0 => omega); (case zzhx1 => omega); (case zzhk0 => omega); (case zzhd => ktr_room); (case zzhu => ktr_units)); (try clear zb3); (try clear zb4); (try clear zb5); intro zr zu zi zx zti ztx zh ztk zb1 zb2 zb3 zb4 zb5 zF zN; (try dsimp only at zN); (try k_sweep)) | (k_unfold; (try dsimp only)) | walk1 | dsimp only) | fail "no step")
                          obtain ⟨H, Q63, hQ, hQ63, hHQ, hH192, nu8, hnu8⟩ := half_facts buf (by omega)
                          refine bytes_mul_any (b := [113]) (by simp) (by omega) (by omega) (by simp) fun t21 kk21 => ?_
                          rw [hQ]
                          try dsimp only
                          repeat' (first | ((fail_if_success (with_reducible show wpAny _ _ (binaryOp .Mult _ _) _ _ _)); first | ((with_reducible show wpAny _ _ (getMethod (Value.str _ _) (Str.ofString "encode") _) _ _ _); k_dflt (refine getMethod_encode ?_)) | ((with_reducible show wpAny _ _ (binaryOp .Add (Value.bytes _ _) (Value.bytes _ _)) _ _ _); k_dflt (refine addL (by first | omega | (simp only [List.length_map, List.length_append, List.length_cons, List.length_nil, List.length_singleton]; omega)) ?_); intro zt zk) | ((with_reducible show wpAny _ _ (call (Value.builtin "len") _) _ _ _); k_dflt (refine lenL (by first | omega | (simp only [List.length_map, List.length_append, List.length_cons, List.length_nil, List.length_singleton]; omega)) ?_); intro zt zk) | ((with_reducible show wpAny _ _ (call (Value.ref 107) _) _ _ _); k_dflt (refine' next_call ?zzB ?zzF ?zzX ?zzN ?zzT ?zzhk ?zzhl ?zzhi ?zzhn ?zzU ?zzh0 ?zzhx0 ?zzhx1 ?zzhk0 ?zzhd ?zzhu ?_; (case zzB => k_asm); (case zzF => k_asm); (case zzX => k_asm); (case zzN => k_asm); (case zzT => k_asm); (case zzhk => exact rfl); (case zzU => k_updF); (case zzhl => k_asm); (case zzhi => k_asm); (case zzhn => k_asm); (case zzh0 => omega); (case zzhx0 => omega); (case zzhx1 => omega); (case zzhk0 => omega); (case zzhd => ktr_room); (case zzhu => ktr_units)); (try clear zb3); (try clear zb4); (try clear zb5); intro zr zu zi zx zti ztx zh ztk zb1 zb2 zb3 zb4 zb5 zF zN; (try dsimp only at zN); (try k_sweep)) | (k_unfold; (try dsimp only)) | walk1 | dsimp only) | fail "no step")
                          refine bytes_mul_K (b := [63] ++ Q63) (n := 3) (by simp) (by omega) (by omega) (by simp [hQ63]) hHQ fun t22 kk22 => ?_
                          clear hHQ hQ
                          try dsimp only
                          repeat' (first | ((fail_if_success (with_reducible show wpAny _ _ (call (Value.ref 129) _) _ _ _)); first | ((with_reducible show wpAny _ _ (getMethod (Value.str _ _) (Str.ofString "encode") _) _ _ _); k_dflt (refine getMethod_encode ?_)) | ((with_reducible show wpAny _ _ (binaryOp .Add (Value.bytes _ _) (Value.bytes _ _)) _ _ _); k_dflt (refine addL (by first | omega | (simp only [List.length_map, List.length_append, List.length_cons, List.length_nil, List.length_singleton]; omega)) ?_); intro zt zk) | ((with_reducible show wpAny _ _ (call (Value.builtin "len") _) _ _ _); k_dflt (refine lenL (by first | omega | (simp only [List.length_map, List.length_append, List.length_cons, List.length_nil, List.length_singleton]; omega)) ?_); intro zt zk) | ((with_reducible show wpAny _ _ (call (Value.ref 107) _) _ _ _); k_dflt (refine' next_call ?zzB ?zzF ?zzX ?zzN ?zzT ?zzhk ?zzhl ?zzhi ?zzhn ?zzU ?zzh0 ?zzhx0 ?zzhx1 ?zzhk0 ?zzhd ?zzhu ?_; (case zzB => k_asm); (case zzF => k_asm); (case zzX => k_asm); (case zzN => k_asm); (case zzT => k_asm); (case zzhk => exact rfl); (case zzU => k_updF); (case zzhl => k_asm); (case zzhi => k_asm); (case zzhn => k_asm); (case zzh0 => omega); (case zzhx0 => omega); (case zzhx1 => omega); (case zzhk0 => omega); (case zzhd => ktr_room); (case zzhu => ktr_units)); (try clear zb3); (try clear zb4); (try clear zb5); intro zr zu zi zx zti ztx zh ztk zb1 zb2 zb3 zb4 zb5 zF zN; (try dsimp only at zN); (try k_sweep)) | (k_unfold; (try dsimp only)) | walk1 | dsimp only) | fail "no step")
                          rw [show ((buf.length : Nat) : Int) + ((H.length : Nat) : Int) + 1 = ((buf.length + 192 + 1 : Nat) : Int) from by rw [hH192]; rfl]
                          rename Fr _ _ _ _ => F6
                          rename News _ _ _ _ => N6
                          refine' refused_call (r := .refused) (n := nu8) (at_ := buf.length + 192 + 1) ?B F6 ?X N6 ?T ?XB ?TB ?D ?hk ?hd ?hu ?hbuf ?hU (fun _ _ e => nomatch e) (fun _ _ _ _ e => nomatch e) ?href (fun _ _ _ _ _ _ _ e => nomatch e)
                          case hU => exact hnu8
                          case B => k_asm
                          case X => k_asm
                          case T => k_asm
                          case XB => k_asm
                          case TB => k_asm
                          case D => exact fun b hb => nomatch hb
                          case hk => exact rfl
                          case hd => ktr_room
                          case hu => ktr_units
                          case hbuf => simp only [List.length_append, List.length_cons, List.length_nil, hH192]; omega
                          case href =>
                            intro u9 h₁ h' tk' _ T5 F5 N5 B5
                            obtain ⟨F8, N8⟩ := turn_nil T5 F5 N5
                            clear T5 F5 N5 F6 N6 B5
                            try dsimp only
                            repeat' (first | ((fail_if_success (with_reducible show GoodW ..)); first | ((with_reducible show wpAny _ _ (getMethod (Value.str _ _) (Str.ofString "encode") _) _ _ _); k_dflt (refine getMethod_encode ?_)) | ((with_reducible show wpAny _ _ (binaryOp .Add (Value.bytes _ _) (Value.bytes _ _)) _ _ _); k_dflt (refine addL (by first | omega | (simp only [List.length_map, List.length_append, List.length_cons, List.length_nil, List.length_singleton]; omega)) ?_); intro zt zk) | ((with_reducible show wpAny _ _ (call (Value.builtin "len") _) _ _ _); k_dflt (refine lenL (by first | omega | (simp only [List.length_map, List.length_append, List.length_cons, List.length_nil, List.length_singleton]; omega)) ?_); intro zt zk) | ((with_reducible show wpAny _ _ (call (Value.ref 107) _) _ _ _); k_dflt (refine' next_call ?zzB ?zzF ?zzX ?zzN ?zzT ?zzhk ?zzhl ?zzhi ?zzhn ?zzU ?zzh0 ?zzhx0 ?zzhx1 ?zzhk0 ?zzhd ?zzhu ?_; (case zzB => k_asm); (case zzF => k_asm); (case zzX => k_asm); (case zzN => k_asm); (case zzT => k_asm); (case zzhk => exact rfl); (case zzU => k_updF); (case zzhl => k_asm); (case zzhi => k_asm); (case zzhn => k_asm); (case zzh0 => omega); (case zzhx0 => omega); (case zzhx1 => omega); (case zzhk0 => omega); (case zzhd => ktr_room); (case zzhu => ktr_units)); (try clear zb3); (try clear zb4); (try clear zb5); intro zr zu zi zx zti ztx zh ztk zb1 zb2 zb3 zb4 zb5 zF zN; (try dsimp only at zN); (try k_sweep)) | (k_unfold; (try dsimp only)) | walk1 | dsimp only) | fail "no step")
                            rw [show (Str.ofString "refused" == Str.ofString "refused") = true from by simp]
                            exact good_end (by k_asm) (by assumption) rfl
end Mine
end
open PySem PySem.W PyProof.Rows
theorem PySem.Challenge.cw_ao0004_01_holds : PySem.Challenge.rw_ao0004_01.Holds := by
  exact Mine.law_walk
