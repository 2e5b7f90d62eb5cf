import PyProof.Rows.All
import Wide.All
import OpenK.AllK
import Wide.FinOn
import PySem.Sre
import PySem.Challenge.RW_st0008_01
set_option Elab.async false
set_option rowWalk.seconds 0
set_option compiler.extract_closed false
set_option bootstrap.genMatcherCode false
section
-- head
open PySem PySem.W PyProof.Rows
namespace Mine
set_option maxRecDepth 100000 in
set_option maxHeartbeats 8000000 in
theorem hd : ∃ A B : Prop, A → B → PySem.Challenge.rw_st0008_01.row.wellSaid = true → PySem.Challenge.rw_st0008_01.row.Holds := by
  apply Exists.intro
  apply Exists.intro
  intro h1 h2
  refine (fun (_ : type_of% h1) (_ : type_of% h2) => (?main : PySem.Challenge.rw_st0008_01.row.wellSaid = true → PySem.Challenge.rw_st0008_01.row.Holds)) ?hl ?hc
  case main =>
    intro said
    w_on
    k_head
    case hw => w_witness2
  case hl => exact h1
  case hc => exact h2
end Mine
end
section
-- Loose
example : True := by
  w_top off
  trivial
open PySem
namespace Mine
noncomputable abbrev loose3 : List Str := [Str.ofString "_twin_re_1", Str.ofString "_twin_re_2", Str.ofString "EXACT_TOKEN_TYPES"]
end Mine
end
section
-- CompTup
example : True := by
  w_top off
  trivial
open PySem PySem.W PyProof.Rows PySem.Spec PySem.Calls
namespace Mine
noncomputable def Held (P : Prop) : Prop := P
theorem Held.out {P : Prop} (h : Held P) : P := h
theorem Held.mk {P : Prop} (h : P) : Held P := h
noncomputable def Hid (P : Prop) : Prop := P
theorem Hid.mk {P : Prop} (h : P) : Hid P := h
noncomputable def TupAt (ax : Addr) (its : Array Value) (news : List (Addr × Obj)) : Prop := ∃ o, (ax, o) ∈ news ∧ o.cls = .type "tuple" ∧ ∃ n, o.data = .seq its n
section
variable {prog : Program} {w : World} {A : Around} {E : Value → Shared → Prop} {s : Shared} {h₀ : Heap} {L : Addr} {m : Str → Option Value} {env : Env}
theorem tup_at {h : Heap} {ax : Addr} {its : Array Value} {news : List (Addr × Obj)} (x : TupAt ax its news) (N : News h₀ L h news) : h.IsTuple ax its := by
  obtain ⟨o, hm, r⟩ := x
  exact ⟨o, (N _ hm).1, r⟩
theorem tup_st {ax I : Addr} {its : Array Value} : ∀ (i : Nat) (h h' : Heap) (o : Obj) (nw : List (Addr × Obj)), (h.IsTupleIter I ax i ∧ h.IsTuple ax its) → h.get? I = some o → h'.get? I = some o →
    (∀ b o, h₀.get? b = some o → h'.get? b = some o) → News h₀ L h' nw → TupAt ax its nw → (h'.IsTupleIter I ax i ∧ h'.IsTuple ax its) := by
  intro i h h' o nw st e e' _ N S
  obtain ⟨o', q, r⟩ := st.1
  rw [e] at q
  cases q
  exact ⟨⟨o, e', r⟩, tup_at S N⟩
/-- the source is a tuple of the ledger -/
noncomputable def CompSrcU (prog : Program) (w : World) (A : Around) (h₀ : Heap) (L : Addr) (m : Str → Option Value) (env : Env) (elt : PySem.Expr) (x : Str) (scope : Scope) (cl : List (Str × Addr)) (Fin : Shared → List Value → List (Addr × Obj) → Prop) (xv : Value) (s₁ : Shared) : Prop :=
  ∃ ax its news, xv = .ref ax ∧ A.handled = none ∧ Fr h₀ L s₁.heap m ∧ News h₀ L s₁.heap news ∧ TupAt ax its news ∧ its.size ≤ sizeLine ∧
    ∀ g : Heap, LCg.CompRest prog w A h₀ L m env elt x scope cl { s₁ with heap := g } (TupAt ax its) (fun i v => its[i]? = some v) (Fin { s₁ with heap := g }) its.size 0 [] news
noncomputable def CompSrcUT (prog : Program) (w : World) (A : Around) (h₀ : Heap) (L : Addr) (m : Str → Option Value) (env : Env) (ct elt : PySem.Expr) (x : Str) (scope : Scope) (cl : List (Str × Addr)) (Fin : Shared → List Value → List (Addr × Obj) → Prop) (xv : Value) (s₁ : Shared) : Prop :=
  ∃ ax its news, xv = .ref ax ∧ A.handled = none ∧ Fr h₀ L s₁.heap m ∧ News h₀ L s₁.heap news ∧ TupAt ax its news ∧ its.size ≤ sizeLine ∧
    ∀ g : Heap, LCt.CompRestT prog w A h₀ L m env ct elt x scope cl { s₁ with heap := g } (TupAt ax its) (fun i v => its[i]? = some v) (Fin { s₁ with heap := g }) its.size 0 [] news
theorem fin_store {D C : Addr} {h' : Heap} {tk : Nat} {m' : Str → Option Value} {ys : List Value} {news' : List (Addr × Obj)} {y : Str} {py : Pos} {s₂ : Shared} {Q : Flow → Shared → Prop}
    (hy : env.kindOf y = some .local) (hp : (env.scope.kind == .class || (env.scope.kind == .module && env.locals != env.globals)) = false) (hLe : env.locals = L)
    (F' : Fr h₀ L h' m) (N' : News h₀ L h' ((D, LCg.lst ys) :: news')) (o1 : LCg.Off1 D news') (hn : h'.Ns C m') (hC₀ : h₀.get? C = none) (hCL : C ≠ L) (hCD : C ≠ D) (offC : ∀ p ∈ news', p.1 ≠ C)
    (fin : LCg.FinA h₀ L m s₂ y Q ys news') {R : Shared → Prop}
    (hR : ∀ s₃ : Shared, (∃ m'', s₃.heap.Ns C m'' ∧ ∀ h'', Heap.SameBut C s₃.heap h'' → Q .next { s₃ with heap := h'' }) → R s₃) :
    wpAny (model prog w) A (assign (.Name y py) env (.ref D)) (fun _ s₃ => R s₃) E { s₂ with heap := h', toks := tk } := by
  subst hLe
  refine wpAny_assign_Name (wpAny_storeName_local hy F'.ns (fun h₂ hn₂ hs₂ => hR _ ?_) hp)
  have hL₀ : h₀.get? env.locals = none := Heap.get?_none_of_le F'.above
  have F₂ : Fr h₀ env.locals h₂ (fun z => if z = y then some (.ref D) else m z) := ⟨hn₂, fun b o e => hs₂.extBut b o (fun q => by rw [q, hL₀] at e; cases e) (F'.keep b o e), F'.above⟩
  refine ⟨m', hn.sameBut hs₂ hCL, fun h'' hs'' => fin D h'' _ (F₂.change hs'' hCL hC₀) (fun p hp => ?_) o1⟩
  have z : h₂.get? p.1 = some p.2 := hs₂.extBut _ _ (N' p hp).2.1 (N' p hp).1
  refine ⟨hs''.extBut _ _ ?_ z, (N' p hp).2⟩
  rcases List.mem_cons.mp hp with rfl | hp
  · exact Ne.symm hCD
  · exact offC p hp

theorem assign_comp_tup {elt iter : PySem.Expr} {x y : Str} {px py : Pos} {scope : Scope} {cl : List (Str × Addr)} {pos spos : Pos} {Q : Flow → Shared → Prop} (F₀ : Fr h₀ L s.heap m) (hLe : env.locals = L)
    (hsw : swapsWith (.ListComp elt [⟨.Name x px, iter, [], 0⟩] scope pos) (some (.Name y py)) spos.line env = pure true)
    (hclos : closureFor scope env = pure cl) (hcell : ∀ z ∈ scope.names, z.2 ≠ .cell) (hkind : scope.kind = .function)
    (hnames : ∀ z ∈ scope.names, z.2 = .local → scope.names.lookup z.1 = some .local) (hx : scope.names.lookup x = some .local)
    (hy : env.kindOf y = some .local) (hp : (env.scope.kind == .class || (env.scope.kind == .module && env.locals != env.globals)) = false)
    (h : wpAny (model prog w) A (eval iter env) (CompSrcU prog w A h₀ L m env elt x scope cl (fun s₂ => LCg.FinA h₀ L m s₂ y Q)) E s)
    (hs : ∀ x, foldedSetIterable iter env x = pure x := by intro _; rfl) :
    wpAny (model prog w) A (exec (.Assign [.Name y py] (.ListComp elt [⟨.Name x px, iter, [], 0⟩] scope pos) spos) env) Q E s := by
  rw [exec_Assign_Name_used _ _ _ _ hsw]
  refine wpAny_bind (wpAny_standAt (wpAny_bind ?_))
  show wpAny _ A (do let _ ← comprehension (.ListComp elt [⟨.Name x px, iter, [], 0⟩] scope pos) scope env _ (newList []) false (eval iter env) (some (assign (.Name y py) env))) _ _ s
  refine wpAny_bind (wpAny_mono (wpAny_comprehension_free (use := some (assign (.Name y py) env)) (Q := fun _ s' => Q .next s') rfl hs hclos hkind hnames
    (wpAny_mono h (fun xv s₁ h₁ => ?_) fun _ _ e => e)) (fun _ s' hq => wpAny_pure (wpAny_pure hq)) fun _ _ e => e)
  obtain ⟨ax, its, news, rfl, hh, F, N, S, hsz, R⟩ := h₁
  have hl := tup_at S N
  have hlt : ax < s₁.heap.objs.size := by obtain ⟨_, e, _⟩ := hl; exact Heap.lt_size e
  refine wpAny_pyIter_tuple hl ?_
  have up : ∀ b o, s₁.heap.get? b = some o → (s₁.heap.push { cls := .type "tuple_iterator", data := .fields #[.ref ax, .int 0 0] }).get? b = some o := fun b o e => Heap.get?_push_of_some _ e
  refine LCg.block_U (Walks.tuple hh s₁.heap.objs.size ax (Nat.ne_of_lt hlt) its) hsz (fun i h st => by obtain ⟨o, e, _⟩ := st.1; exact ⟨o, e⟩) tup_st hcell hkind hx ⟨⟨_, Heap.get?_push_size _ rfl, rfl, rfl⟩, hl.at fun o e => up ax o e⟩ (fun b hb => ?_)
    (F.keeps up) (N.grown up) (Nat.ne_of_lt F.ns.lt) (next_is_new F) (fun p hp => Nat.ne_of_lt (Heap.lt_size (N p hp).1)) S (R _) ?_
  · show b < (s₁.heap.push _).objs.size
    rw [Heap.size_push]
    rcases List.mem_cons.mp hb with rfl | hb
    · exact Nat.lt_succ_self _
    · rw [List.mem_singleton.mp hb]; exact Nat.lt_succ_of_lt hlt
  · intro D C h' tk m' ys news' F' N' o1 hn hC₀ hD₀ hCL hDL hCD offC fin
    exact fin_store hy hp hLe F' N' o1 hn hC₀ hCL hCD offC fin fun s₃ x => x

theorem assign_comp_tupT {ct elt iter : PySem.Expr} {x y : Str} {px py : Pos} {scope : Scope} {cl : List (Str × Addr)} {pos spos : Pos} {Q : Flow → Shared → Prop} (F₀ : Fr h₀ L s.heap m) (hLe : env.locals = L)
    (hsw : swapsWith (.ListComp elt [⟨.Name x px, iter, [ct], 0⟩] scope pos) (some (.Name y py)) spos.line env = pure true)
    (hclos : closureFor scope env = pure cl) (hcell : ∀ z ∈ scope.names, z.2 ≠ .cell) (hkind : scope.kind = .function)
    (hnames : ∀ z ∈ scope.names, z.2 = .local → scope.names.lookup z.1 = some .local) (hx : scope.names.lookup x = some .local)
    (hy : env.kindOf y = some .local) (hp : (env.scope.kind == .class || (env.scope.kind == .module && env.locals != env.globals)) = false)
    (h : wpAny (model prog w) A (eval iter env) (CompSrcUT prog w A h₀ L m env ct elt x scope cl (fun s₂ => LCg.FinA h₀ L m s₂ y Q)) E s)
    (hs : ∀ x, foldedSetIterable iter env x = pure x := by intro _; rfl) :
    wpAny (model prog w) A (exec (.Assign [.Name y py] (.ListComp elt [⟨.Name x px, iter, [ct], 0⟩] scope pos) spos) env) Q E s := by
  rw [exec_Assign_Name_used _ _ _ _ hsw]
  refine wpAny_bind (wpAny_standAt (wpAny_bind ?_))
  show wpAny _ A (do let _ ← comprehension (.ListComp elt [⟨.Name x px, iter, [ct], 0⟩] scope pos) scope env _ (newList []) false (eval iter env) (some (assign (.Name y py) env))) _ _ s
  refine wpAny_bind (wpAny_mono (wpAny_comprehension_free (use := some (assign (.Name y py) env)) (Q := fun _ s' => Q .next s') rfl hs hclos hkind hnames
    (wpAny_mono h (fun xv s₁ h₁ => ?_) fun _ _ e => e)) (fun _ s' hq => wpAny_pure (wpAny_pure hq)) fun _ _ e => e)
  obtain ⟨ax, its, news, rfl, hh, F, N, S, hsz, R⟩ := h₁
  have hl := tup_at S N
  have hlt : ax < s₁.heap.objs.size := by obtain ⟨_, e, _⟩ := hl; exact Heap.lt_size e
  refine wpAny_pyIter_tuple hl ?_
  have up : ∀ b o, s₁.heap.get? b = some o → (s₁.heap.push { cls := .type "tuple_iterator", data := .fields #[.ref ax, .int 0 0] }).get? b = some o := fun b o e => Heap.get?_push_of_some _ e
  refine LCt.block_T (Walks.tuple hh s₁.heap.objs.size ax (Nat.ne_of_lt hlt) its) hsz (fun i h st => by obtain ⟨o, e, _⟩ := st.1; exact ⟨o, e⟩) tup_st hcell hkind hx ⟨⟨_, Heap.get?_push_size _ rfl, rfl, rfl⟩, hl.at fun o e => up ax o e⟩ (fun b hb => ?_)
    (F.keeps up) (N.grown up) (Nat.ne_of_lt F.ns.lt) (next_is_new F) (fun p hp => Nat.ne_of_lt (Heap.lt_size (N p hp).1)) S (R _) ?_
  · show b < (s₁.heap.push _).objs.size
    rw [Heap.size_push]
    rcases List.mem_cons.mp hb with rfl | hb
    · exact Nat.lt_succ_self _
    · rw [List.mem_singleton.mp hb]; exact Nat.lt_succ_of_lt hlt
  · intro D C h' tk m' ys news' F' N' o1 hn hC₀ hD₀ hCL hDL hCD offC fin
    exact fin_store hy hp hLe F' N' o1 hn hC₀ hCL hCD offC fin fun s₃ x => x
theorem CompSrcU.intro {elt : PySem.Expr} {x : Str} {scope : Scope} {cl : List (Str × Addr)} {Fin : Shared → List Value → List (Addr × Obj) → Prop} {ax : Addr} {its : Array Value} {k : Nat} {news : List (Addr × Obj)} {s₁ : Shared}
    (hh : A.handled = none) (F : Fr h₀ L s₁.heap m) (N : News h₀ L s₁.heap news) (hm : (ax, ({ cls := .type "tuple", data := .seq its k } : Obj)) ∈ news) (hsz : its.size ≤ sizeLine)
    (h : ∀ g, LCg.CompRest prog w A h₀ L m env elt x scope cl { s₁ with heap := g } (TupAt ax its) (fun i v => its[i]? = some v) (Fin { s₁ with heap := g }) its.size 0 [] news) :
    CompSrcU prog w A h₀ L m env elt x scope cl Fin (.ref ax) s₁ := ⟨ax, its, news, rfl, hh, F, N, ⟨_, hm, rfl, _, rfl⟩, hsz, h⟩
theorem CompSrcUT.intro {ct elt : PySem.Expr} {x : Str} {scope : Scope} {cl : List (Str × Addr)} {Fin : Shared → List Value → List (Addr × Obj) → Prop} {ax : Addr} {its : Array Value} {k : Nat} {news : List (Addr × Obj)} {s₁ : Shared}
    (hh : A.handled = none) (F : Fr h₀ L s₁.heap m) (N : News h₀ L s₁.heap news) (hm : (ax, ({ cls := .type "tuple", data := .seq its k } : Obj)) ∈ news) (hsz : its.size ≤ sizeLine)
    (h : ∀ g, LCt.CompRestT prog w A h₀ L m env ct elt x scope cl { s₁ with heap := g } (TupAt ax its) (fun i v => its[i]? = some v) (Fin { s₁ with heap := g }) its.size 0 [] news) :
    CompSrcUT prog w A h₀ L m env ct elt x scope cl Fin (.ref ax) s₁ := ⟨ax, its, news, rfl, hh, F, N, ⟨_, hm, rfl, _, rfl⟩, hsz, h⟩
/-- turn by turn, by what holds before each turn -/
theorem compRest_of {elt : PySem.Expr} {x : Str} {scope : Scope} {cl : List (Str × Addr)} {S : List (Addr × Obj) → Prop} {P : Nat → Value → Prop} {Fin : List Value → List (Addr × Obj) → Prop} (n : Nat) (J : Nat → List Value → List (Addr × Obj) → Prop)
    (step : ∀ i ys news, i < n → J i ys news → ∀ v I oI C oC D m₂ h tk (E' : Value → Shared → Prop), P i v → LCg.NsObj oC m₂ → m₂ x = some v → Fr h₀ L h m → News h₀ L h ((I, oI) :: (C, oC) :: (D, LCg.lst ys) :: news) → LCg.Off3 I C D news → Hid ((@Ne Nat I C) ∧ (@Ne Nat I D) ∧ (@Ne Nat C D)) →
      wpAny (model prog w) A (eval elt (compEnvC scope cl C env)) (LCg.CompEnd h₀ L m { s with heap := h, toks := tk } I oI C oC D (LCg.lst ys) S (fun y news' => J (i + 1) (ys ++ [y]) news')) E' { s with heap := h, toks := tk })
    (fin : ∀ ys news, J n ys news → Fin ys news) : ∀ k i, i + k = n → ∀ ys news, J i ys news → LCg.CompRest prog w A h₀ L m env elt x scope cl s S P Fin k i ys news
  | 0, i, hi, ys, news, hJ => by
    have e : i = n := by omega
    subst e
    exact fin ys news hJ
  | k + 1, i, hi, ys, news, hJ => by
    refine LCg.CompRest.succ fun v I oI C oC D m₂ h tk E' hv hC hx F N off ne => ?_
    refine wpAny_mono (step i ys news (by omega) hJ v I oI C oC D m₂ h tk E' hv hC hx F N off ne) (fun y s' h' => ?_) fun _ _ e => e
    obtain ⟨h', tk', news', e, F', N', off', hS, hr⟩ := h'
    exact ⟨h', tk', news', e, F', N', off', hS, compRest_of n J step fin k (i + 1) (by omega) _ _ hr⟩
noncomputable def PureEnd (h₀ : Heap) (L : Addr) (m : Str → Option Value) (s : Shared) (led : List (Addr × Obj)) (R : Value → Prop) (y : Value) (s' : Shared) : Prop :=
  ∃ h' tk', s' = { s with heap := h', toks := tk' } ∧ Fr h₀ L h' m ∧ News h₀ L h' led ∧ R y
/-- turns that leave the ledger as it is -/
theorem compRest_pure {elt : PySem.Expr} {x : Str} {scope : Scope} {cl : List (Str × Addr)} {S : List (Addr × Obj) → Prop} {P : Nat → Value → Prop} {Fin : List Value → List (Addr × Obj) → Prop} {n : Nat} {news : List (Addr × Obj)} (R : Nat → Value → Prop) (hS : S news)
    (step : ∀ i ys, i < n → ∀ v I oI C oC D m₂ h tk (E' : Value → Shared → Prop), P i v → LCg.NsObj oC m₂ → m₂ x = some v → Fr h₀ L h m → News h₀ L h ((I, oI) :: (C, oC) :: (D, LCg.lst ys) :: news) →
      wpAny (model prog w) A (eval elt (compEnvC scope cl C env)) (PureEnd h₀ L m s ((I, oI) :: (C, oC) :: (D, LCg.lst ys) :: news) (R i)) E' { s with heap := h, toks := tk })
    (fin : ∀ ys : List Value, ys.length = n → (∀ i y, ys[i]? = some y → R i y) → Fin ys news) : LCg.CompRest prog w A h₀ L m env elt x scope cl s S P Fin n 0 [] news := by
  refine compRest_of n (fun i ys nw => nw = news ∧ ys.length = i ∧ ∀ j y, ys[j]? = some y → R j y) ?_ ?_ n 0 (by omega) [] news ⟨rfl, rfl, fun j y h => by simp at h⟩
  · rintro i ys nw hi ⟨rfl, hl, hR⟩ v I oI C oC D m₂ h tk E' hv hC hx F N off _
    refine wpAny_mono (step i ys hi v I oI C oC D m₂ h tk E' hv hC hx F N) (fun y s' h' => ?_) fun _ _ e => e
    obtain ⟨h', tk', rfl, F', N', hr⟩ := h'
    refine ⟨h', tk', nw, rfl, F', N', off, hS, rfl, by simp [hl], fun j z hz => ?_⟩
    rcases Nat.lt_or_ge j ys.length with hj | hj
    · rw [List.getElem?_append_left hj] at hz
      exact hR j z hz
    · rw [List.getElem?_append_right hj] at hz
      have hj0 : j = ys.length := by
        rcases Nat.lt_or_ge ys.length j with h1 | h1
        · rw [List.getElem?_eq_none (by simp; omega)] at hz; cases hz
        · omega
      subst hj0
      have : y = z := by simpa using hz
      subst this
      rw [hl]
      exact hr
  · rintro ys nw ⟨rfl, hl, hR⟩
    exact fin ys hl hR
theorem off1_mem {D : Addr} : ∀ {l : List (Addr × Obj)}, LCg.Off1 D l → ∀ p ∈ l, p.1 ≠ D
  | [], _, _, h => nomatch h
  | _ :: _, x, p, h => by
    rcases List.mem_cons.mp h with rfl | h
    · exact x.1
    · exact off1_mem x.2 p h
theorem ints_pt {ys : List Value} : ∀ {zs : List Int}, ys.length = zs.length → (∀ (i : Nat) (y : Value), ys[i]? = some y → ∃ t : Tok, y = Value.int (zs.getD i 0) t) → IntsAre ys zs := by
  induction ys with
  | nil => intro zs hl _; cases zs with
    | nil => exact .nil
    | cons => simp at hl
  | cons y r ih => intro zs hl h; cases zs with
    | nil => simp at hl
    | cons z q =>
      obtain ⟨t, e⟩ := h 0 y (by simp)
      have e' : y = .int z t := e
      subst e'
      exact .cons z t (ih (by simpa using hl) fun i y' hy => h (i + 1) y' (by simpa using hy))
theorem strs_pt {ys : List Value} : ∀ {zs : List Str}, ys.length = zs.length → (∀ (i : Nat) (y : Value), ys[i]? = some y → ∃ t : Tok, y = Value.str (zs.getD i Str.empty) t) → StrsAre ys zs := by
  induction ys with
  | nil => intro zs hl _; cases zs with
    | nil => exact .nil
    | cons => simp at hl
  | cons y r ih => intro zs hl h; cases zs with
    | nil => simp at hl
    | cons z q =>
      obtain ⟨t, e⟩ := h 0 y (by simp)
      have e' : y = .str z t := e
      subst e'
      exact .cons z t (ih (by simpa using hl) fun i y' hy => h (i + 1) y' (by simpa using hy))
end
end Mine
end
section
-- ZipComp
example : True := by
  w_top off
  trivial
open PySem PySem.W PyProof.Rows PySem.Spec PySem.Calls PyProof.Rows.LCg
namespace Mine
section
variable {prog : Program} {w : World} {A : Around} {E : Value → Shared → Prop} {s : Shared} {h₀ : Heap} {L : Addr} {m : Str → Option Value} {env : Env}
/-- the turn of a comprehension over pairs, its element leaving the ledger as it is -/
noncomputable def PairStep (prog : Program) (w : World) (A : Around) (h₀ : Heap) (L : Addr) (m : Str → Option Value) (env : Env) (elt : PySem.Expr) (a b : Str) (scope : Scope) (cl : List (Str × Addr)) (s₂ : Shared) (news : List (Addr × Obj)) (n : Nat) (PV : Nat → Value → Value → Prop) (R : Nat → Value → Prop) : Prop :=
  ∀ i ys, i < n → ∀ x y C oC D m₂ h tk own (E' : Value → Shared → Prop), PV i x y → NsObj oC m₂ → m₂ a = some x → m₂ b = some y → Fr h₀ L h m → News h₀ L h ((C, oC) :: (D, lst ys) :: (news ++ own)) →
    wpAny (model prog w) A (eval elt (compEnvC scope cl C env)) (PureEnd h₀ L m s₂ ((C, oC) :: (D, lst ys) :: (news ++ own)) (R i)) E' { s₂ with heap := h, toks := tk }
theorem pair_block {elt iter : PySem.Expr} {a b : Str} {pa pb tp : Pos} {kk : Nat} {scope : Scope} {cl : List (Str × Addr)} {pos : Pos} {s₂ : Shared} {I : Addr} {fp wr : List Addr} {n : Nat} {P Md : Nat → Value → Heap → Prop} {St : Nat → Heap → Prop} {news : List (Addr × Obj)}
    {PV : Nat → Value → Value → Prop} {R : Nat → Value → Prop} {RR : Value → Addr → Result → Shared → Prop}
    (W : KTurns prog w A (.Tuple [.Name a pa, .Name b pb] kk tp) I fp wr n P Md St) (hh : A.handled = none)
    (hP : ∀ i v h, P i v h → ∃ T x y, v = .ref T ∧ h.IsTuple T #[x, y] ∧ PV i x y) (hsz : n ≤ sizeLine)
    (hself : ∀ (s : Shared) (Q : Value → Shared → Prop) (E : Value → Shared → Prop), St 0 s.heap → Q (.ref I) s → wpAny (model prog w) A (pyIter (.ref I)) Q E s)
    (hcell : ∀ y ∈ scope.names, y.2 ≠ .cell) (hkind : scope.kind = .function) (hxa : scope.names.lookup a = some .local) (hxb : scope.names.lookup b = some .local) (hab : ¬ a = b)
    (hst : St 0 s₂.heap) (hfp : ∀ c ∈ fp, c < s₂.heap.objs.size) (F : Fr h₀ L s₂.heap m) (N : News h₀ L s₂.heap news) (hLf : L ∉ fp) (hwr : ∀ c ∈ wr, h₀.get? c = none) (off : ∀ p ∈ news, p.1 ∉ wr)
    (step : PairStep prog w A h₀ L m env elt a b scope cl s₂ news n PV R)
    (hRR : ∀ D C h tk m' ys, Fr h₀ L h m → News h₀ L h ((D, lst ys) :: news) → h.Ns C m' → h₀.get? C = none → h₀.get? D = none → C ≠ L → D ≠ L → C ≠ D → (∀ p ∈ news, p.1 ≠ C) → (∀ p ∈ news, p.1 ≠ D) → ys.length = n →
      (∀ (i : Nat) (y : Value), ys[i]? = some y → R i y) → RR (.ref D) C (.ok .next) { s₂ with heap := h, toks := tk }) :
    wpAny (model prog w) A (newList []) (fun acc s₃ => wpAny (model prog w) A (newFunctionEnv scope env.globals cl [] env.qual none .none (some env)) (fun cenv s₄ =>
      codeAny (model prog w) A (.compStart (.ListComp elt [⟨.Tuple [.Name a pa, .Name b pb] kk tp, iter, [], 0⟩] scope pos) 0 (.ref I) acc { cenv with scope := relabel scope env }) (RR acc cenv.locals) s₄) E s₃) E s₂ := by
  refine wpAny_newObj_type (wpAny_newFunctionEnv hcell (by intro y hy; simp at hy) (fun h₁ hns₁ hsb₁ => ?_) hkind)
  dsimp only at hns₁ hsb₁ ⊢
  generalize hH2 : s₂.heap.push { cls := .type "list", dict := none, data := .seq ([] : List Value).toArray } = H2 at hns₁ hsb₁ ⊢
  have hC : H2.objs.size = s₂.heap.objs.size + 1 := by rw [← hH2, Heap.size_push]
  have hDC : s₂.heap.objs.size ≠ H2.objs.size := by rw [hC]; exact Nat.ne_of_lt (Nat.lt_succ_self _)
  have below : ∀ c, c < s₂.heap.objs.size → c ≠ H2.objs.size ∧ c ≠ s₂.heap.objs.size := fun c hb => ⟨by rw [hC]; exact Nat.ne_of_lt (Nat.lt_succ_of_lt hb), Nat.ne_of_lt hb⟩
  have old : ∀ c o, s₂.heap.get? c = some o → h₁.get? c = some o := fun c o e => hsb₁.extBut c o (below c (Heap.lt_size e)).1 (Heap.get?_push_of_some _ (hH2 ▸ Heap.get?_push_of_some _ e))
  have hacc : h₁.get? s₂.heap.objs.size = some (lst []) := hsb₁.extBut _ _ hDC (Heap.get?_push_of_some _ (hH2 ▸ Heap.get?_push_size _ rfl))
  have fresh : ∀ c, s₂.heap.objs.size ≤ c → s₂.heap.get? c = none := fun c hc => by
    cases e : s₂.heap.get? c with
    | none => rfl
    | some o' => exact absurd (Heap.lt_size e) (Nat.not_lt.mpr hc)
  have fresh₀ : ∀ c, s₂.heap.objs.size ≤ c → h₀.get? c = none := fun c hc => by
    cases e : h₀.get? c with
    | none => rfl
    | some o' => have := F.keep c o' e; rw [fresh c hc] at this; cases this
  have hD₀ : h₀.get? s₂.heap.objs.size = none := fresh₀ _ (Nat.le_refl _)
  have hC₀ : h₀.get? H2.objs.size = none := fresh₀ _ (by rw [hC]; exact Nat.le_succ _)
  have hLlt : L < s₂.heap.objs.size := F.ns.lt
  have hDL : s₂.heap.objs.size ≠ L := Ne.symm (below L hLlt).2
  have hCL : H2.objs.size ≠ L := Ne.symm (below L hLlt).1
  have hCf : ∀ c ∈ fp, c ≠ H2.objs.size := fun c hc => (below c (hfp c hc)).1
  have hDf : ∀ c ∈ fp, c ≠ s₂.heap.objs.size := fun c hc => (below c (hfp c hc)).2
  have hLw : L ∉ wr := fun h => hLf (W.sub _ h)
  have hCw : H2.objs.size ∉ wr := fun h => hCf _ (W.sub _ h) rfl
  have hDw : s₂.heap.objs.size ∉ wr := fun h => hDf _ (W.sub _ h) rfl
  have nlt : ∀ p ∈ news, p.1 ≠ H2.objs.size ∧ p.1 ≠ s₂.heap.objs.size := fun p hp => below _ (Heap.lt_size (N p hp).1)
  have old₀ : ∀ c o, h₀.get? c = some o → c ∉ wr := fun c o e hc => by rw [hwr c hc] at e; cases e
  have loop : ∀ s₃ : Shared, s₃ = { s₂ with heap := h₁, toks := s₂.toks + ([] : List (Str × Value)).length } →
      codeAny (model prog w) A (.compLoop (.ListComp elt [⟨.Tuple [.Name a pa, .Name b pb] kk tp, iter, [], 0⟩] scope pos) 0 (.ref I) (.ref s₂.heap.objs.size) (compEnvC scope cl H2.objs.size env))
        (RR (.ref s₂.heap.objs.size) H2.objs.size) s₃ := by
    rintro s₃ rfl
    refine kcp_loop
      (fun k s' => ∃ h' tk i ys m', s' = { s₂ with heap := h', toks := tk } ∧ i ≤ n ∧ k = n + 1 - i ∧ ys.length = i ∧ St i h' ∧ Fr h₀ L h' m ∧ h'.Ns H2.objs.size m' ∧
        News h₀ L h' ((s₂.heap.objs.size, lst ys) :: news) ∧ ∀ (j : Nat) (y : Value), ys[j]? = some y → R j y) ?_ (n + 1)
      ⟨h₁, _, 0, [], _, rfl, Nat.zero_le _, rfl, rfl, W.frame _ _ _ hst fun c _ o e => old c o e, F.keeps old, hns₁, fun p hp => ?_, fun j y h => by simp at h⟩
    · rintro k s' ⟨h', tk, i, ys, m', rfl, hi, rfl, hyl, hst', F', hn', N', hR'⟩
      by_cases hlt : i < n
      · refine W.item i _ _ _ hlt hst' fun v h₂ tk₂ hMd hk₂ => ?_
        refine W.go i v _ _ _ hMd fun h₃ hP₃ hst₃ hk₃ => ?_
        obtain ⟨T, x, y, rfl, hT, hPV⟩ := hP i v h₃ hP₃
        have up₃ : ∀ c o, c ∉ wr → h'.get? c = some o → h₃.get? c = some o := fun c o hc e => hk₃ c o hc (hk₂ c o hc e)
        refine kcp_assign (env := compEnvC scope cl H2.objs.size env) hh hT (lookup_relabel_local hxa) (lookup_relabel_local hxb) (by simp [compEnvC, relabel, hkind]) (hn'.at' fun o e => up₃ _ o hCw e) fun h₄ tk₄ hn₄ hs₄ => ?_
        have up : ∀ c o, c ∉ wr → c ≠ H2.objs.size → h'.get? c = some o → h₄.get? c = some o := fun c o h1 h2 e => hs₄ c o h2 (up₃ c o h1 e)
        have hst₄ : St (i + 1) h₄ := W.frame _ _ _ hst₃ fun c hc o e => hs₄ c o (hCf c hc) e
        obtain ⟨oC, heC, hoC⟩ := ns_obj hn₄
        have F₄ : Fr h₀ L h₄ m := ⟨F'.ns.at' fun o e => up _ o hLw (Ne.symm hCL) e, fun c o e => up c o (old₀ c o e) (fun q => by rw [q, hC₀] at e; cases e) (F'.keep c o e), F'.above⟩
        have Nown : News h₀ L h₄ (PyProof.Rows.ownOf h₀ fp h₄) := news_ownOf hLf
        have N₄ : News h₀ L h₄ ((H2.objs.size, oC) :: (s₂.heap.objs.size, lst ys) :: (news ++ PyProof.Rows.ownOf h₀ fp h₄)) := fun q hq => by
          rcases List.mem_cons.mp hq with rfl | hq
          · exact ⟨heC, hCL, hC₀⟩
          · rcases List.mem_cons.mp hq with rfl | hq
            · have z := N' _ (List.mem_cons_self ..)
              exact ⟨up _ _ hDw hDC z.1, z.2⟩
            · rcases List.mem_append.mp hq with hq | hq
              · have z := N' q (List.mem_cons_of_mem _ hq)
                exact ⟨up _ _ (off q hq) (nlt q hq).1 z.1, z.2⟩
              · exact Nown q hq
        refine wpAny_mono (step i ys hlt x y H2.objs.size oC s₂.heap.objs.size _ h₄ tk₄ _ _ hPV hoC (by simp [hab]) (by simp) F₄ N₄) (fun z s₅ h₅ => ?_) fun _ _ e => e
        obtain ⟨h₅, tk₅, rfl, F₅, N₅, hr⟩ := h₅
        have zC := (N₅ (H2.objs.size, oC) List.mem_cons_self).1
        have zD := (N₅ (s₂.heap.objs.size, lst ys) (List.mem_cons_of_mem _ List.mem_cons_self)).1
        have hst₅ : St (i + 1) h₅ := by
          refine W.frame _ _ _ hst₄ fun c hc o e => ?_
          cases hn : h₀.get? c with
          | some o₁ =>
            have : o₁ = o := by have q := F₄.keep c o₁ hn; rw [e] at q; exact (Option.some.inj q).symm
            exact this ▸ F₅.keep c o₁ hn
          | none => exact (N₅ _ (List.mem_cons_of_mem _ (List.mem_cons_of_mem _ (List.mem_append_right _ (mem_ownOf hc hn e))))).1
        refine append_at (hsz := by show ys.toArray.size ≤ sizeLine; rw [List.size_toArray, hyl]; exact Nat.le_trans hi hsz) zD fun h₆ hs₆ hD₆ => ?_
        refine ⟨n + 1 - (i + 1), by omega, h₆, tk₅, i + 1, ys ++ [z], _, rfl, hlt, rfl, by rw [List.length_append, List.length_singleton, hyl], W.frame _ _ _ hst₅ fun c hc o e => hs₆.extBut c o (hDf c hc) e, F₅.change hs₆ hDL hD₀,
          (hoC.ns zC).sameBut hs₆ (Ne.symm hDC), fun q hq => ?_, fun j y' hj => ?_⟩
        · rcases List.mem_cons.mp hq with rfl | hq
          · exact ⟨hD₆.trans (congrArg some (lst_snoc ys z)), hDL, hD₀⟩
          · have zz := N₅ q (List.mem_cons_of_mem _ (List.mem_cons_of_mem _ (List.mem_append_left _ hq)))
            exact ⟨hs₆.extBut _ _ (nlt q hq).2 zz.1, zz.2⟩
        · rcases Nat.lt_or_ge j ys.length with h1 | h1
          · rw [List.getElem?_append_left h1] at hj
            exact hR' j y' hj
          · rw [List.getElem?_append_right h1] at hj
            have hj0 : j = ys.length := by
              rcases Nat.lt_or_ge ys.length j with h2 | h2
              · rw [List.getElem?_eq_none (by simp; omega)] at hj; cases hj
              · omega
            subst hj0
            have e' : z = y' := by simpa using hj
            subst e'
            rw [hyl]; exact hr
      · have hin : i = n := Nat.le_antisymm hi (Nat.not_lt.mp hlt)
        subst hin
        refine W.done _ _ _ hst' fun h₂ tk₂ hk₂ => ?_
        have F₂ : Fr h₀ L h₂ m := ⟨F'.ns.at' fun o e => hk₂ _ o hLw e, fun c o e => hk₂ c o (old₀ c o e) (F'.keep c o e), F'.above⟩
        refine hRR _ _ h₂ tk₂ _ ys F₂ (fun q hq => ?_) (hn'.at' fun o e => hk₂ _ o hCw e) hC₀ hD₀ hCL hDL (Ne.symm hDC) (fun p hp => (nlt p hp).1) (fun p hp => (nlt p hp).2) hyl hR'
        have z := N' q hq
        refine ⟨hk₂ _ _ ?_ z.1, z.2⟩
        rcases List.mem_cons.mp hq with rfl | hq
        · exact hDw
        · exact off q hq
    · rcases List.mem_cons.mp hp with rfl | hp
      · exact ⟨hacc, hDL, hD₀⟩
      · exact ⟨old _ _ (N p hp).1, (N p hp).2⟩
  refine codeAny_compStart_list (loop _ rfl) (hself _ _ _ ?_ (loop _ rfl))
  exact W.frame _ _ _ hst fun c _ o e => old c o e

noncomputable def ZipSrc (prog : Program) (w : World) (A : Around) (h₀ : Heap) (L : Addr) (m : Str → Option Value) (env : Env) (elt iter : PySem.Expr) (a b : Str) (pa pb tp : Pos) (kk : Nat) (scope : Scope) (cl : List (Str × Addr)) (pos : Pos) (E Q : Value → Shared → Prop) (xv : Value) (s₁ : Shared) : Prop :=
  wpAny (model prog w) A (pyIter xv) (fun it s₂ => wpAny (model prog w) A (newList []) (fun acc s₃ =>
      wpAny (model prog w) A (newFunctionEnv scope env.globals cl [] env.qual none .none (some env)) (fun cenv s₄ =>
        codeAny (model prog w) A (.compStart (.ListComp elt [⟨.Tuple [.Name a pa, .Name b pb] kk tp, iter, [], 0⟩] scope pos) 0 it acc { cenv with scope := relabel scope env }) (compPost (model prog w) A E none Q acc cenv.locals) s₄) E s₃) E s₂) E s₁
theorem zip_ListComp {elt iter : PySem.Expr} {a b : Str} {pa pb tp : Pos} {kk : Nat} {scope : Scope} {cl : List (Str × Addr)} {pos : Pos} {Q : Value → Shared → Prop} (F₀ : Fr h₀ L s.heap m)
    (hclos : closureFor scope env = pure cl) (hkind : scope.kind = .function)
    (hnames : ∀ y ∈ scope.names, y.2 = .local → scope.names.lookup y.1 = some .local)
    (h : wpAny (model prog w) A (eval iter env) (ZipSrc prog w A h₀ L m env elt iter a b pa pb tp kk scope cl pos E Q) E s)
    (hs : ∀ x, foldedSetIterable iter env x = pure x := by intro _; rfl) :
    wpAny (model prog w) A (eval (.ListComp elt [⟨.Tuple [.Name a pa, .Name b pb] kk tp, iter, [], 0⟩] scope pos) env) Q E s := by
  rw [eval_ListComp]
  exact wpAny_comprehension_free (use := none) rfl hs hclos hkind hnames (wpAny_mono h (fun xv s₁ h₁ => h₁) fun _ _ e => e)
theorem zip_call {elt iter : PySem.Expr} {a b : Str} {pa pb tp : Pos} {kk : Nat} {scope : Scope} {cl : List (Str × Addr)} {pos : Pos} {Q : Value → Shared → Prop} {l1 l2 : Addr} {xs ys : Array Value} {k1 k2 : Nat} {news : List (Addr × Obj)} {R : Nat → Value → Prop}
    (hh : A.handled = none) (F : Fr h₀ L s.heap m) (N : News h₀ L s.heap news) (hm1 : (l1, ({ cls := .type "list", data := .seq xs k1 } : Obj)) ∈ news) (hm2 : (l2, ({ cls := .type "list", data := .seq ys k2 } : Obj)) ∈ news)
    (hsz : min xs.size ys.size ≤ sizeLine)
    (hcell : ∀ y ∈ scope.names, y.2 ≠ .cell) (hkind : scope.kind = .function) (hxa : scope.names.lookup a = some .local) (hxb : scope.names.lookup b = some .local) (hab : ¬ a = b)
    (step : ∀ g : Heap, PairStep prog w A h₀ L m env elt a b scope cl { s with heap := g } news (min xs.size ys.size) (fun i x y => xs[i]? = some x ∧ ys[i]? = some y) R)
    (fin : ∀ (D : Addr) (h' : Heap) (tk : Nat) (zs : List Value), Fr h₀ L h' m → News h₀ L h' ((D, lst zs) :: news) → Off1 D news → zs.length = min xs.size ys.size → (∀ (i : Nat) (z : Value), zs[i]? = some z → R i z) → Q (.ref D) { s with heap := h', toks := tk }) :
    wpAny (model prog w) A (call (.type "zip") [.ref l1, .ref l2]) (ZipSrc prog w A h₀ L m env elt iter a b pa pb tp kk scope cl pos E Q) E s := by
  have hax1 := N _ hm1
  have hax2 := N _ hm2
  have hl1 : s.heap.IsList l1 xs := ⟨_, hax1.1, rfl, k1, rfl⟩
  have hl2 : s.heap.IsList l2 ys := ⟨_, hax2.1, rfl, k2, rfl⟩
  have hlt1 : l1 < s.heap.objs.size := Heap.lt_size hax1.1
  have hlt2 : l2 < s.heap.objs.size := Heap.lt_size hax2.1
  have hLs : L < s.heap.objs.size := F.ns.lt
  have D : ZipApart (s.heap.objs.size + 4) (s.heap.objs.size + 2) (s.heap.objs.size + 3) s.heap.objs.size (s.heap.objs.size + 1) l1 l2 := ktu_apart _ _ _ hlt1 hlt2
  refine call_zip_2 hl1 hl2 fun h' hz hTI hTO hi1 hi2 hsz' hk => ?_
  unfold ZipSrc
  refine wpAny_pyIter_zip hz ?_
  refine pair_block (PV := fun i x y => xs[i]? = some x ∧ ys[i]? = some y) (KTurns.ofWalksU (WalksT.zip2 hh _ _ _ _ _ _ _ D xs ys).toU) hh ?_ hsz ?_ hcell hkind hxa hxb hab ⟨hz, hTI, ⟨_, _, hTO⟩, hi1, hi2, hl1.at fun o e => hk l1 o e, hl2.at fun o e => hk l2 o e⟩ ?_ (F.keeps hk) (N.grown hk) ?_ ?_ ?_ (step h') ?_
  · rintro i v h ⟨T, vals, rfl, ⟨x, y, hx, hy, rfl⟩, hT⟩
    exact ⟨T, x, y, rfl, hT, hx, hy⟩
  · rintro s' Q' E' ⟨hz', _⟩ hq
    exact wpAny_pyIter_zip hz' hq
  · intro c hc
    have hc' : c = s.heap.objs.size + 4 ∨ c = s.heap.objs.size + 2 ∨ c = s.heap.objs.size + 3 ∨ c = s.heap.objs.size ∨ c = s.heap.objs.size + 1 ∨ c = l1 ∨ c = l2 := by simpa using hc
    show c < h'.objs.size
    rw [hsz']
    rcases hc' with rfl | rfl | rfl | rfl | rfl | rfl | rfl
    · exact Nat.lt_succ_self _
    · exact Nat.add_lt_add_left (by decide) _
    · exact Nat.add_lt_add_left (by decide) _
    · exact Nat.lt_add_of_pos_right (by decide)
    · exact Nat.add_lt_add_left (by decide) _
    · exact Nat.lt_of_lt_of_le hlt1 (Nat.le_add_right _ _)
    · exact Nat.lt_of_lt_of_le hlt2 (Nat.le_add_right _ _)
  · intro hI'
    have hb' : L = s.heap.objs.size + 4 ∨ L = s.heap.objs.size + 2 ∨ L = s.heap.objs.size + 3 ∨ L = s.heap.objs.size ∨ L = s.heap.objs.size + 1 ∨ L = l1 ∨ L = l2 := by simpa using hI'
    rcases hb' with e | e | e | e | e | e | e
    · exact ktu_ne 4 hLs e
    · exact ktu_ne 2 hLs e
    · exact ktu_ne 3 hLs e
    · exact Nat.ne_of_lt hLs e
    · exact ktu_ne 1 hLs e
    · exact hax1.2.1 e.symm
    · exact hax2.2.1 e.symm
  · intro c hc
    have hc' : c = s.heap.objs.size + 4 ∨ c = s.heap.objs.size + 3 ∨ c = s.heap.objs.size ∨ c = s.heap.objs.size + 1 := by simpa using hc
    rcases hc' with rfl | rfl | rfl | rfl
    · exact ktu_new F (Nat.le_add_right _ _)
    · exact ktu_new F (Nat.le_add_right _ _)
    · exact ktu_new F (Nat.le_refl _)
    · exact ktu_new F (Nat.le_add_right _ _)
  · intro p hp hI'
    have hc' : p.1 = s.heap.objs.size + 4 ∨ p.1 = s.heap.objs.size + 3 ∨ p.1 = s.heap.objs.size ∨ p.1 = s.heap.objs.size + 1 := by simpa using hI'
    have hlp := Heap.lt_size (N p hp).1
    rcases hc' with e | e | e | e
    · exact ktu_ne 4 hlp e
    · exact ktu_ne 3 hlp e
    · exact Nat.ne_of_lt hlp e
    · exact ktu_ne 1 hlp e
  · intro D' C h'' tk m' zs F' N' hn hC₀ hD₀ hCL hDL hCD offC offD hl hR
    refine ⟨m', hn, fun h3 hs3 => fin D' h3 tk zs (F'.change hs3 hCL hC₀) (fun p hp => ?_) ?_ hl hR⟩
    · refine ⟨hs3.extBut _ _ ?_ (N' p hp).1, (N' p hp).2⟩
      rcases List.mem_cons.mp hp with rfl | hp
      · exact Ne.symm hCD
      · exact offC p hp
    · have : ∀ l : List (Addr × Obj), (∀ p ∈ l, p.1 ≠ D') → Off1 D' l := by
        intro l
        induction l with
        | nil => intro _; trivial
        | cons p r ih => exact fun h => ⟨h p List.mem_cons_self, ih fun q hq => h q (List.mem_cons_of_mem _ hq)⟩
      exact this news offD
end
end Mine
end
section
-- EnterT
example : True := by
  w_top off
  trivial
open PySem PySem.W PyProof.Rows PySem.Spec PySem.Calls
namespace Mine
section
variable {prog : Program} {w : World} {A A₀ : Around} {s : Shared} {K : Frag} {L : Addr} {h₀ base : Heap} {m mg mb : Str → Option Value} {news : List (Addr × Obj)} {p : Program} {loose : List Str} {mean : ExcName → Option Value}
/-- entering a def with cells, with a token drawn before -/
theorem enterT {env : Env} {outer : List Env} {R : Result → Shared → Prop} {name qual : Str} {params : Arguments} {body : List Stmt} {scope : Scope} {dV kV doc pm cdv ct oc : Value} {an od : Option Addr} {osl : Array (Option Value)} {f : Addr} {args : Args} {binds : List (Str × Value)}
    (ht : 0 < s.toks) (B : Below A₀ base outer h₀) (F : Fr h₀ L s.heap m) (X₀ : K.In h₀) (N : News h₀ L s.heap news) (T : Top p loose mean mg mb h₀) (hA : A.frames = some (env :: outer)) (hf : env.frame = some L) (hke : env.scope.kind = .function)
    (ho : K.lookup f = some ⟨oc, od, .func (fnOf name qual params body scope dV kV doc pm an cdv ct), osl⟩) (hcd : codeIn K cdv qual = true) (hroom : A.depth < recursionLimit)
    (hbind : BindsTo s (fnOf name qual params body scope dV kV doc pm an cdv ct) args binds) (hkind : (binds.all fun y => scope.names.lookup y.1 == some .local || scope.names.lookup y.1 == some .cell) = true)
    (hnd : ((cellsFrom 0 scope.names []).map (·.1)).Nodup)
    (h : ∀ g L' h₁ tk cells, 0 < tk → Fr h₀ L g m → Fr g L' h₁ (bindL (envOfC qual scope L' f cdv).kindOf binds fun _ => none) → News g L' h₁ (cells ++ news) →
      CellsAre (bindC (envOfC qual scope L' f cdv).kindOf binds fun _ => none) (cellsFrom (L' + 1) scope.names []) cells → Below A base (env :: outer) g → K.In g → Top p loose mean mg mb g → (∀ p ∈ news, p.1 < L') →
      wpAny (model prog w) (A.deeper (envOfC qual scope L' f cdv)) (execs body (envOfC qual scope L' f cdv))
        (fun fl s' => LeaveK h₀ L m g R (match fl with | .ret v => v | _ => .none) s')
        (fun e s' => wpAny (model prog w) (A.deeper (envOfC qual scope L' f cdv)) (leaving (envOfC qual scope L' f cdv) e) (fun _ s'' => R (.error e) s'') (fun e' s'' => R (.error e') s'') s')
        { s with heap := h₁, toks := tk })
    (hco : scope.isCoroutine = false) (hgen : scope.isGenerator = false) (hk : scope.kind = .function) : codeAny (model prog w) A (.call (.ref f) args) R s := by
  have hd := (X₀.keeps F.keep) _ _ ho
  obtain ⟨FG, BG, st, lv⟩ := groundX (R := R) B F N hA hf hke
  refine codeAny_call_function hroom hd rfl hco hgen rfl (codeRec_of (X₀.keeps F.keep) hcd) (hbind _ _ _ _ ?_)
  refine wpAny_with_toks (n := 1) ht (wpAny_newFunctionEnv_cells hk (kindsX hkind _) fun env' he s' x => ?_)
  subst he
  intro htk
  refine ⟨(T.nolimit.keeps F.keep).keeps x.toInCall.keep, codeAny_func ?_⟩
  obtain ⟨h₁, tk, rfl, _⟩ := x.done
  have hk₁ := x.toInCall.keep
  obtain ⟨cells, NC, Y⟩ := Cl.news (h₀ := s.heap) (Nat.le_refl _) fun n c hm => ⟨x.cell n c (lookup_of_mem_nodup (cellsFrom_names scope.names 0 (s.heap.objs.size + 1) [] [] rfl ▸ hnd) hm), x.above n c hm⟩
  refine wpAny_mono (h _ s.heap.objs.size h₁ tk cells htk FG ⟨x.toInCall.ns, fun b o e => hk₁ b o (of_hideAll _ e), Nat.le_of_eq (hideAll_size _ _)⟩ (fun p hp => ?_) Y BG (X₀.keeps st) (T.keeps st) (fun p hp => Heap.lt_size (N p hp).1)) (fun fl s' hl => lv _ _ hl) fun _ _ y => y
  rcases List.mem_append.mp hp with hp | hp
  · refine ⟨(NC p hp).1, (NC p hp).2.1, ?_⟩
    cases q : (hideAll s.heap (news.map (·.1))).get? p.1 with
    | none => rfl
    | some o => have := of_hideAll _ q; rw [(NC p hp).2.2] at this; cases this
  · exact ⟨hk₁ _ _ (N p hp).1, Nat.ne_of_lt (Heap.lt_size (N p hp).1), hideAll_none _ (List.mem_map_of_mem hp)⟩
end
section
variable {prog : Program} {w : World} {A : Around} {E : Value → Shared → Prop} {s : Shared}
theorem keep_toks {α : Type} {t : Sem α} {Q : α → Shared → Prop} {hp : Heap} {g : Array GenState} {d : Drawn} {n : Nat} {o : OsState} (h0 : 0 < n) (h : ∀ tk, 0 < tk → wpAny (model prog w) A t Q E ⟨hp, g, d, tk, o⟩) :
    wpAny (model prog w) A t Q E ⟨hp, g, d, n, o⟩ := h n h0
theorem replace_here {x y z : Str} {t : Tok} {hp : Heap} {g : Array GenState} {d : Drawn} {n u v : Nat} {o : OsState} {Q : Value → Shared → Prop} (hu : u ≠ 0) (hv : v ≠ 0) (huv : u ≠ v) (hyz : (y == z) = false) (hx : x.length ≤ 1048576) (hz : z.length ≤ 14)
    (hq : ∀ t' k, Q (.str (Txt.replace x y z) t') ⟨hp, g, d, k, o⟩) : wpAny (model prog w) A (call (.builtin "str.replace") [.str x t, .str y u, .str z v]) Q E ⟨hp, g, d, n, o⟩ :=
  SC.replaceW (s := ⟨hp, g, d, n, o⟩) hu hv huv hyz hx hz hq
theorem tok_ne1 {a : Nat} (h : 0 < a) : a ≠ 0 := Nat.ne_of_gt h
theorem tok_ne2 {a : Nat} : a + 1 ≠ 0 := Nat.succ_ne_zero _
theorem tok_ne3 {a : Nat} : a ≠ a + 1 := Nat.ne_of_lt (Nat.lt_succ_self _)
end
theorem rep_len {x y z : Str} {n : Nat} (h : x.length ≤ n) (hz : z.length ≤ 5) : (Txt.replace x y z).length ≤ 6 * n + 5 := by
  unfold Txt.replace
  split
  · omega
  · have h1 := StrLaws.occ_length_le x y 0 x.length (x.length + 1)
    have hy : (Builtin.Str.glued y (Builtin.Str.partsBetween x (Builtin.Str.occurrences x y 0 x.length (x.length + 1)) y.length)).length = x.length := by rw [StrLaws.glued_between_self]
    rw [size_glued, length_partsBetween, Nat.add_sub_cancel] at hy
    rw [size_glued, length_partsBetween, Nat.add_sub_cancel]
    have h2 : (Builtin.Str.occurrences x y 0 x.length (x.length + 1)).length * z.length ≤ (x.length + 1) * 5 := Nat.mul_le_mul h1 hz
    omega
theorem rep_b0 {x : Str} (h : x.cps.size ≤ 600) : x.length ≤ 1048576 := Nat.le_trans h (by decide)
theorem rep_b1 {x y z : Str} (h : x.cps.size ≤ 600) (hz : z.length ≤ 5) : (Txt.replace x y z).length ≤ 1048576 := Nat.le_trans (rep_len (n := 600) h hz) (by decide)
theorem rep_b2 {x y z y' z' : Str} (h : x.cps.size ≤ 600) (hz : z.length ≤ 5) (hz' : z'.length ≤ 5) : (Txt.replace (Txt.replace x y z) y' z').length ≤ 1048576 := Nat.le_trans (rep_len (rep_len (n := 600) h hz) hz') (by decide)
/-- what holds at a while's test, as a stop for the walker -/
noncomputable def Yes (b : Bool) (P : Prop) : Prop := b = true ∧ P
noncomputable def No (b : Bool) (P : Prop) : Prop := b = false ∧ P
noncomputable def NextJ (f : Flow) (P : Prop) : Prop := f = .next ∧ P
section
variable {prog : Program} {w : World} {A : Around} {E : Value → Shared → Prop} {env : Env} {test : PySem.Expr} {body orelse : List Stmt} {Q : Flow → Shared → Prop}
theorem whl_ind {α : Type} (J : List α → Shared → Prop) (hE : PassesOwn (model prog w) A env E)
    (step : ∀ a r s, J (a :: r) s → wpAny (model prog w) A (isTrue test env (eval test env)) (fun b s₂ => Yes b (wpAny (model prog w) A (execs body env) (fun f s₃ => NextJ f (J r s₃)) E s₂)) E s)
    (fin : ∀ s, J [] s → wpAny (model prog w) A (isTrue test env (eval test env)) (fun b s₂ => No b (wpAny (model prog w) A (execs orelse env) Q E s₂)) E s) :
    ∀ (l : List α) (s : Shared), J l s → ∀ k, WhlRest prog w A E env test body orelse Q k s
  | [], s, hJ, _ => whl_turn (k := 0) hE (wpAny_mono (fin s hJ) (fun _ _ h => WhlIf.no h.1 h.2) fun _ _ e => e)
  | a :: r, s, hJ, k => whl_turn (k := k) hE (wpAny_mono (step a r s hJ) (fun _ _ h => WhlIf.yes h.1 (wpAny_mono h.2 (fun f s₃ h3 => by
      obtain ⟨rfl, h3⟩ := h3
      exact whl_ind J hE step fin r s₃ h3 k) fun _ _ e => e)) fun _ _ e => e)
end
section
variable {prog : Program} {w : World} {A : Around} {E : Value → Shared → Prop} {s : Shared} {h₀ : Heap} {L : Addr} {m : Str → Option Value}
theorem append_led {D : Addr} {zs : List Value} {v : Value} {news : List (Addr × Obj)} {Q : Value → Shared → Prop} (F : Fr h₀ L s.heap m) (N : News h₀ L s.heap ((D, LCg.lst zs) :: news)) (off : ∀ p ∈ news, p.1 ≠ D) (hz : zs.length ≤ sizeLine)
    (h : ∀ h', Fr h₀ L h' m → News h₀ L h' ((D, LCg.lst (zs ++ [v])) :: news) → Q .none { s with heap := h' }) : wpAny (model prog w) A (call (.builtin "list.append") [.ref D, v]) Q E s := by
  obtain ⟨hD, hDL, hD0⟩ := N (D, LCg.lst zs) (List.mem_cons_self ..)
  have hl : s.heap.IsList D zs.toArray := ⟨_, hD, rfl, _, rfl⟩
  have e : Obj.mapSeq (·.push v) (LCg.lst zs) = LCg.lst (zs ++ [v]) := by
    refine Eq.trans ?_ (LCg.lst_snoc zs v)
    show ({ cls := .type "list", data := .seq (zs.toArray.push v) (if (zs.toArray.push v).size == zs.toArray.size then zs.length else zs.length + 1) } : Obj) = _
    rw [if_neg (by simp)]
  refine wpAny_call_entry slot_list_append hl.typeIs entry_list_append ?_ (args_list_append _ _)
  show wpAny _ _ (updateSeq D (·.push v) >>= fun _ => ret .none) _ _ s
  refine wpAny_bind ?_
  refine wpAny_updateSeq hD rfl (wpAny_pure ⟨.none, rfl, h _ ?_ ?_⟩) (by show zs.toArray.size ≤ sizeLine; rw [List.size_toArray]; exact hz) (by show (zs.toArray.push v).size ≤ sizeLine + 1; rw [Array.size_push, List.size_toArray]; omega)
  · exact F.change (Heap.SameBut.update ..) hDL hD0
  · intro p hp
    rcases List.mem_cons.mp hp with rfl | hp
    · refine ⟨?_, hDL, hD0⟩
      rw [← e]
      exact Heap.get?_update_self _ hD rfl
    · have := N p (List.mem_cons_of_mem _ hp)
      exact ⟨((Heap.SameBut.update s.heap D _).2 _ (off p hp)).trans this.1, this.2⟩
theorem eachL_pick {h : Heap} {z : Str} {v : Int} {P : Value → Prop} (hP : ∀ t : Tok, P (.int v t)) : ∀ (D : List (Str × Int)), (D.find? fun t => decide (z = t.1)).map (·.2) = some v → KTD.EachL h z P (D.map fun q => (q.1, KTD.Dat.flat (.int q.2)))
  | [], hf => by cases hf
  | (x, d) :: D, hf => by
    by_cases hx : z = x
    · rw [List.find?_cons_of_pos (by simpa using hx)] at hf
      cases hf
      exact KTD.eachL_hit hx (KTD.opened_int hP)
    · rw [List.find?_cons_of_neg (by simpa using hx)] at hf
      exact KTD.eachL_miss hx (eachL_pick hP D hf)
theorem inKeys_pick {z : Str} {v : Int} : ∀ (D : List (Str × Int)), (D.find? fun t => decide (z = t.1)).map (·.2) = some v → KTD.inKeys z (D.map fun q => (q.1, KTD.Dat.flat (.int q.2))) = true
  | [], hf => by cases hf
  | (x, d) :: D, hf => by
    show (decide (z = x) || KTD.inKeys z _) = true
    by_cases hx : z = x
    · simp [hx]
    · rw [List.find?_cons_of_neg (by simpa using hx)] at hf
      rw [inKeys_pick D hf, Bool.or_true]
theorem tab_item {value slice : PySem.Expr} {a : Addr} {z : Str} {tk : Tok} {v : Int} {Q : Value → Shared → Prop} (D : List (Str × Int)) (T : KTD.Here h₀ s.heap a (D.map fun q => (q.1, KTD.Dat.flat (.int q.2)))) (hz : (D.find? fun t => decide (z = t.1)).map (·.2) = some v)
    (hpl : ((D.map fun q => (q.1, KTD.Dat.flat (.int q.2))).all fun p => KTD.plain p.2) = true)
    (h : ∀ t, Q (.int v t) { s with toks := s.toks + 1 })
    (hs : subscripted slice false (.ref a) (.str z tk) = operate [.ref a, .str z tk] (getItem (.ref a) (.str z tk))) :
    wpAny (model prog w) A (subscriptTail value slice (.ref a) (.str z tk)) Q E s := KTD.item_textA T hpl (inKeys_pick D hz) (eachL_pick h D hz) hs
end
end Mine
end
section
-- Sre1
example : True := by
  w_top off
  trivial
namespace Mine
open PySem.Sre
noncomputable def code1 : Array Nat := #[14, 4, 0, 1, 1, 6, 1, 16, 46, 1]
noncomputable def code2 : Array Nat := #[14, 9, 4, 1, 2, 16, 10, 16, 13, 0, 7, 7, 16, 13, 16, 10, 15, 18, 5, 16, 10, 15, 13, 11, 16, 13, 5, 5, 0, 16, 10, 1, 15, 2, 0, 1]
/-- the machine's states that are met: no groups, no loops -/
noncomputable def st (code text : Array Nat) (lim start : Nat) (seen : Seen) (pc pos handed : Nat) (outermost : Bool) (frames : List Frame) (weight : Nat) (answer : Option Bool) : M :=
  { code := code, text := text, lim := lim, start := start, lastStart := lim, pc := pc, pos := pos, handed := handed, outermost := outermost, marks := #[], frames := frames, weight := weight, answer := answer, seen := seen }
noncomputable def nx (pc pos : Nat) (om : Bool) : Frame := { wait := .nextStart, pc := pc, pos := pos, outermost := om }
noncomputable def nb (pc pos : Nat) (om : Bool) : Frame := { wait := .nextBranch, pc := pc, pos := pos, outermost := om }
noncomputable def ln (pc pos : Nat) (om : Bool) : Frame := { wait := .lookNot, pc := pc, pos := pos, outermost := om }
theorem runFor_add (a b : Nat) (m : M) : M.runFor (a + b) m = M.runFor b (M.runFor a m) := by
  induction a generalizing m with
  | zero => rw [Nat.zero_add]; rfl
  | succ a ih =>
    rw [Nat.add_right_comm]
    show (if m.outcome.isSome then m else M.runFor (a + b) m.step) = M.runFor b (if m.outcome.isSome then m else M.runFor a m.step)
    split
    · rename_i h
      cases b with
      | zero => rfl
      | succ b => show m = if m.outcome.isSome then m else _; rw [if_pos h]
    · exact ih _
theorem runFor_done {m : M} (h : m.outcome.isSome = true) (k : Nat) : M.runFor k m = m := by
  cases k with
  | zero => rfl
  | succ k => show (if m.outcome.isSome then m else _) = m; rw [if_pos h]
/-- k steps lead from m to m' -/
noncomputable def Goes (m : M) (k : Nat) (m' : M) : Prop := M.runFor k m = m'
theorem Goes.zero (m : M) : Goes m 0 m := rfl
theorem Goes.trans {a b c : M} {k l : Nat} (h : Goes a k b) (h' : Goes b l c) : Goes a (k + l) c := by
  unfold Goes at *
  rw [runFor_add, h, h']
theorem Goes.one {m m' : M} (ho : m.outcome = none) (h : m.step = m') : Goes m 1 m' := by
  unfold Goes
  show (if m.outcome.isSome then m else M.runFor 0 m.step) = m'
  rw [ho, h]
  rfl
section
variable {code text : Array Nat} {lim start pc pos handed weight : Nat} {seen : Seen} {om : Bool} {frames : List Frame}
theorem exec_step (h : pc < code.size) : (st code text lim start seen pc pos handed om frames weight none).step = (st code text lim start seen pc pos handed om frames weight none).exec := by
  unfold M.step
  show (if (pc < code.size) then _ else _) = _
  rw [if_pos h]
theorem go_lit {w : Nat} (h : pc < code.size) (hop : ops[code.getD pc 0]? = some .LITERAL) (hw : code.getD (pc + 1) 0 = w) :
    ∃ seen', Goes (st code text lim start seen pc pos handed om frames weight none) 1
      (if pos < lim ∧ text.getD pos 0 = w then st code text lim start seen' (pc + 2) (pos + 1) handed om frames weight none else st code text lim start seen' pc pos handed om frames weight (some false)) := by
  refine ⟨seen.add (code.getD pc 0), Goes.one rfl ?_⟩
  rw [exec_step h]
  unfold M.exec
  have e : ops[(st code text lim start seen pc pos handed om frames weight none).word 0]? = some .LITERAL := hop
  rw [e]
  show (if pos ≥ lim then _ else _) = _
  by_cases hl : pos < lim
  · rw [if_neg (Nat.not_le.mpr hl)]
    have ha : accepts code pc (text.getD pos 0) (seen.add (code.getD pc 0)) = .ok (text.getD pos 0 == w, seen.add (code.getD pc 0)) := by
      unfold accepts
      rw [hop, hw]
    show (match accepts code pc (text.getD pos 0) (seen.add (code.getD pc 0)) with | .error why => _ | .ok (false, seen) => _ | .ok (true, seen) => _) = _
    rw [ha]
    have hwid : itemWidth code pc = 2 := by unfold itemWidth; rw [hop]
    by_cases hc : text.getD pos 0 = w
    · rw [if_pos ⟨hl, hc⟩, hc, beq_self_eq_true]
      show (st code text lim start (seen.add (code.getD pc 0)) (pc + itemWidth code pc) (pos + 1) handed om frames weight none) = _
      rw [hwid]
    · rw [if_neg (fun h => hc h.2), beq_eq_false_iff_ne.mpr hc]
      rfl
  · rw [if_pos (Nat.not_lt.mp hl), if_neg (fun h => hl h.1)]
    rfl
theorem go_jump {w : Nat} (h : pc < code.size) (hop : ops[code.getD pc 0]? = some .JUMP) (hw : code.getD (pc + 1) 0 = w) :
    ∃ seen', Goes (st code text lim start seen pc pos handed om frames weight none) 1 (st code text lim start seen' (pc + 1 + w) pos handed om frames weight none) := by
  refine ⟨seen.add (code.getD pc 0), Goes.one rfl ?_⟩
  rw [exec_step h]
  unfold M.exec
  have e : ops[(st code text lim start seen pc pos handed om frames weight none).word 0]? = some .JUMP := hop
  rw [e]
  subst hw
  rfl
theorem go_succ (h : pc < code.size) (hop : ops[code.getD pc 0]? = some .SUCCESS) :
    ∃ seen', Goes (st code text lim start seen pc pos handed om frames weight none) 1 (st code text lim start seen' pc pos pos om frames weight (some true)) := by
  refine ⟨seen.add (code.getD pc 0), Goes.one rfl ?_⟩
  rw [exec_step h]
  unfold M.exec
  have e : ops[(st code text lim start seen pc pos handed om frames weight none).word 0]? = some .SUCCESS := hop
  rw [e]
  show (if (om && ((false && _) || (false && _))) = true then _ else _) = _
  rw [if_neg (by simp)]
  rfl
theorem go_at (h : pc < code.size) (hop : ops[code.getD pc 0]? = some .AT) (hw : code.getD (pc + 1) 0 = 1) :
    ∃ seen', Goes (st code text lim start seen pc pos handed om frames weight none) 1
      (if pos = 0 ∨ text.getD (pos - 1) 0 = 10 then st code text lim start seen' (pc + 2) pos handed om frames weight none else st code text lim start seen' pc pos handed om frames weight (some false)) := by
  refine ⟨(seen.add (code.getD pc 0)).add (43 + 1), Goes.one rfl ?_⟩
  rw [exec_step h]
  unfold M.exec
  have e : ops[(st code text lim start seen pc pos handed om frames weight none).word 0]? = some .AT := hop
  rw [e]
  show (match (st code text lim start (seen.add (code.getD pc 0)) pc pos handed om frames weight none).isAt (code.getD (pc + 1) 0) with | .error why => _ | .ok yes => _) = _
  have ea : (st code text lim start (seen.add (code.getD pc 0)) pc pos handed om frames weight none).isAt 1 = .ok (pos == 0 || text.getD (pos - 1) 0 == 10) := rfl
  rw [hw, ea]
  show (if (pos == 0 || text.getD (pos - 1) 0 == 10) = true then (st code text lim start ((seen.add (code.getD pc 0)).add (43 + code.getD (pc + 1) 0)) (pc + 2) pos handed om frames weight none) else (st code text lim start ((seen.add (code.getD pc 0)).add (43 + code.getD (pc + 1) 0)) pc pos handed om frames weight (some false))) = _
  rw [hw]
  by_cases hc : pos = 0 ∨ text.getD (pos - 1) 0 = 10
  · rw [if_pos hc, if_pos (by simpa using hc)]
  · rw [if_neg hc, if_neg (by simpa using hc)]
theorem go_alt {alt : Nat} (hw0 : weight + 1 ≤ 16777216) (hn : code.getD alt 0 ≠ 0) :
    (st code text lim start seen pc pos handed om frames weight none).alternative alt {} = st code text lim start seen (alt + 1) pos pos om (nb alt pos om :: frames) (weight + 1) none := by
  unfold M.alternative
  show (if (code.getD alt 0 == 0) = true then _ else _) = _
  rw [if_neg (by simpa using hn)]
  unfold M.attempt
  show (if weight + 1 + 0 > 16777216 then _ else _) = _
  rw [if_neg (by omega)]
  rfl
theorem go_branch (h : pc < code.size) (hop : ops[code.getD pc 0]? = some .BRANCH) (hw0 : weight + 1 ≤ 16777216) (hn : code.getD (pc + 1) 0 ≠ 0) :
    ∃ seen', Goes (st code text lim start seen pc pos handed om frames weight none) 1 (st code text lim start seen' (pc + 1 + 1) pos pos om (nb (pc + 1) pos om :: frames) (weight + 1) none) := by
  refine ⟨seen.add (code.getD pc 0), Goes.one rfl ?_⟩
  rw [exec_step h]
  unfold M.exec
  have e : ops[(st code text lim start seen pc pos handed om frames weight none).word 0]? = some .BRANCH := hop
  rw [e]
  show (st code text lim start (seen.add (code.getD pc 0)) pc pos handed om frames weight none).alternative (pc + 1) {} = _
  exact go_alt hw0 hn
theorem go_next {alt nxt : Nat} (om' : Bool) (hs : alt + code.getD alt 0 = nxt) (hw0 : weight + 1 ≤ 16777216) (hn : code.getD nxt 0 ≠ 0) :
    Goes (st code text lim start seen pc pos handed om' (nb alt start om :: frames) (weight + 1) (some false)) 1 (st code text lim start seen (nxt + 1) start start om (nb nxt start om :: frames) (weight + 1) none) := by
  refine Goes.one rfl ?_
  unfold M.step
  show M.resume (st code text lim start seen alt start handed om frames (weight + 1 - (1 + 0)) none) (nb alt start om) false = _
  rw [show weight + 1 - (1 + 0) = weight from by omega]
  show (st code text lim start seen alt start handed om frames weight none).alternative (alt + code.getD alt 0) {} = _
  rw [hs]
  exact go_alt hw0 hn
theorem go_yes {f : Frame} (hf : f.wait = .nextBranch ∨ f.wait = .nextStart) (hk : f.kept.marks.size = 0) :
    Goes (st code text lim start seen pc pos handed om (f :: frames) (weight + 1) (some true)) 1 (st code text lim start seen f.pc f.pos handed f.outermost frames weight (some true)) := by
  refine Goes.one rfl ?_
  unfold M.step
  show M.resume (st code text lim start seen f.pc f.pos handed f.outermost frames (weight + 1 - (1 + f.kept.marks.size)) none) f true = _
  rw [hk, show weight + 1 - (1 + 0) = weight from by omega]
  unfold M.resume
  rcases hf with h | h <;> rw [h] <;> rfl
theorem go_not (h : pc < code.size) (hop : ops[code.getD pc 0]? = some .ASSERT_NOT) (hb : code.getD (pc + 2) 0 = 0) (hw0 : weight + 1 ≤ 16777216) :
    ∃ seen', Goes (st code text lim start seen pc pos handed om frames weight none) 1 (st code text lim start seen' (pc + 3) pos pos false (ln pc pos om :: frames) (weight + 1) none) := by
  refine ⟨seen.add (code.getD pc 0), Goes.one rfl ?_⟩
  rw [exec_step h]
  unfold M.exec
  have e : ops[(st code text lim start seen pc pos handed om frames weight none).word 0]? = some .ASSERT_NOT := hop
  rw [e]
  show (if pos < code.getD (pc + 2) 0 then _ else (st code text lim start (seen.add (code.getD pc 0)) pc pos handed om frames weight none).attempt (ln pc pos om) (pc + 3) (pos - code.getD (pc + 2) 0) false) = _
  rw [hb, if_neg (Nat.not_lt_zero _)]
  unfold M.attempt
  show (if weight + 1 + 0 > 16777216 then _ else _) = _
  rw [if_neg (by omega)]
  rfl
theorem go_notno {p r w : Nat} (om' : Bool) (hw : code.getD (p + 1) 0 = w) :
    Goes (st code text lim start seen pc pos handed om' (ln p r om :: frames) (weight + 1) (some false)) 1 (st code text lim start seen (p + 1 + w) r handed om frames weight none) := by
  refine Goes.one rfl ?_
  unfold M.step
  show M.resume (st code text lim start seen p r handed om frames (weight + 1 - (1 + 0)) none) (ln p r om) false = _
  rw [show weight + 1 - (1 + 0) = weight from by omega]
  subst hw
  rfl
theorem go_end (b : Bool) : Goes (st code text lim start seen pc pos handed om [] weight (some b)) 1 { st code text lim start seen pc pos handed om [] weight (some b) with outcome := some (if b then .matched else .failed) } := Goes.one rfl rfl
end
end Mine
end
section
-- Sre2
example : True := by
  w_top off
  trivial
namespace Mine
open PySem.Sre
section
variable {text : Array Nat} {lim start pc pos handed weight : Nat} {seen : Seen} {om : Bool} {frames : List Frame}
noncomputable def isNl (c : Nat) : Bool := c == 10 || c == 13
/-- where a match of pattern 2 that begins at p ends -/
noncomputable def end2 (text : Array Nat) (p : Nat) : Nat := if text.getD p 0 = 13 ∧ p + 1 < text.size ∧ text.getD (p + 1) 0 = 10 then p + 2 else p + 1
theorem sz2 : code2.size = 36 := rfl
theorem match2 (p : Nat) (hp : p < text.size) (hc : isNl (text.getD p 0) = true) (seen : Seen) :
    ∃ k seen' pc' pos', k ≤ 40 ∧ Goes (st code2 text text.size p seen 10 p p true [nx 10 p true] 1 none) k
      { st code2 text text.size p seen' pc' pos' (end2 text p) true [] 0 (some true) with outcome := some .matched } := by
  obtain ⟨s1, g1⟩ := go_branch (code := code2) (text := text) (lim := text.size) (start := p) (pc := 10) (pos := p) (handed := p) (weight := 1) (seen := seen) (om := true) (frames := [nx 10 p true]) (by decide) rfl (by decide) (by decide)
  obtain ⟨s2, g2⟩ := go_lit (code := code2) (text := text) (lim := text.size) (start := p) (pc := 12) (pos := p) (handed := p) (weight := 2) (seen := s1) (om := true) (frames := [nb 11 p true, nx 10 p true]) (w := 13) (by decide) rfl rfl
  have fin : ∀ (s : Seen) (h e : Nat) (alt : Nat), ∃ k s', k ≤ 5 ∧ Goes (st code2 text text.size p s 35 e h true [nb alt p true, nx 10 p true] 2 none) k { st code2 text text.size p s' 10 p e true [] 0 (some true) with outcome := some .matched } := by
    intro s h e alt
    obtain ⟨s', g⟩ := go_succ (code := code2) (text := text) (lim := text.size) (start := p) (pc := 35) (pos := e) (handed := h) (weight := 2) (seen := s) (om := true) (frames := [nb alt p true, nx 10 p true]) (by decide) rfl
    have g' := go_yes (code := code2) (text := text) (lim := text.size) (start := p) (pc := 35) (pos := e) (handed := e) (weight := 1) (seen := s') (om := true) (f := nb alt p true) (frames := [nx 10 p true]) (.inl rfl) rfl
    have g'' := go_yes (code := code2) (text := text) (lim := text.size) (start := p) (pc := alt) (pos := p) (handed := e) (weight := 0) (seen := s') (om := true) (f := nx 10 p true) (frames := []) (.inr rfl) rfl
    have ge := go_end (code := code2) (text := text) (lim := text.size) (start := p) (pc := 10) (pos := p) (handed := e) (weight := 0) (seen := s') (om := true) true
    exact ⟨_, s', by decide, ((g.trans g').trans g'').trans ge⟩
  by_cases h13 : text.getD p 0 = 13
  · rw [if_pos ⟨hp, h13⟩] at g2
    obtain ⟨s3, g3⟩ := go_lit (code := code2) (text := text) (lim := text.size) (start := p) (pc := 14) (pos := p + 1) (handed := p) (weight := 2) (seen := s2) (om := true) (frames := [nb 11 p true, nx 10 p true]) (w := 10) (by decide) rfl rfl
    by_cases h10 : p + 1 < text.size ∧ text.getD (p + 1) 0 = 10
    · rw [if_pos h10] at g3
      obtain ⟨s4, g4⟩ := go_jump (code := code2) (text := text) (lim := text.size) (start := p) (pc := 16) (pos := p + 1 + 1) (handed := p) (weight := 2) (seen := s3) (om := true) (frames := [nb 11 p true, nx 10 p true]) (w := 18) (by decide) rfl rfl
      obtain ⟨k, s5, hk, g5⟩ := fin s4 p (p + 1 + 1) 11
      have he : end2 text p = p + 1 + 1 := if_pos ⟨h13, h10⟩
      rw [he]
      exact ⟨_, s5, 10, p, by omega, (((g1.trans g2).trans g3).trans g4).trans g5⟩
    · rw [if_neg h10] at g3
      have g4 := go_next (code := code2) (text := text) (lim := text.size) (start := p) (pc := 14) (pos := p + 1) (handed := p) (weight := 1) (seen := s3) (om := true) (frames := [nx 10 p true]) (alt := 11) (nxt := 18) true rfl (by decide) (by decide)
      obtain ⟨s5, g5⟩ := go_lit (code := code2) (text := text) (lim := text.size) (start := p) (pc := 19) (pos := p) (handed := p) (weight := 2) (seen := s3) (om := true) (frames := [nb 18 p true, nx 10 p true]) (w := 10) (by decide) rfl rfl
      rw [if_neg (fun h => by rw [h13] at h; exact absurd h.2 (by decide))] at g5
      have g6 := go_next (code := code2) (text := text) (lim := text.size) (start := p) (pc := 19) (pos := p) (handed := p) (weight := 1) (seen := s5) (om := true) (frames := [nx 10 p true]) (alt := 18) (nxt := 23) true rfl (by decide) (by decide)
      obtain ⟨s7, g7⟩ := go_lit (code := code2) (text := text) (lim := text.size) (start := p) (pc := 24) (pos := p) (handed := p) (weight := 2) (seen := s5) (om := true) (frames := [nb 23 p true, nx 10 p true]) (w := 13) (by decide) rfl rfl
      rw [if_pos ⟨hp, h13⟩] at g7
      obtain ⟨s8, g8⟩ := go_not (code := code2) (text := text) (lim := text.size) (start := p) (pc := 26) (pos := p + 1) (handed := p) (weight := 2) (seen := s7) (om := true) (frames := [nb 23 p true, nx 10 p true]) (by decide) rfl rfl (by decide)
      obtain ⟨s9, g9⟩ := go_lit (code := code2) (text := text) (lim := text.size) (start := p) (pc := 29) (pos := p + 1) (handed := p + 1) (weight := 3) (seen := s8) (om := false) (frames := [ln 26 (p + 1) true, nb 23 p true, nx 10 p true]) (w := 10) (by decide) rfl rfl
      rw [if_neg h10] at g9
      have g10 := go_notno (code := code2) (text := text) (lim := text.size) (start := p) (pc := 29) (pos := p + 1) (handed := p + 1) (weight := 2) (seen := s9) (om := true) (frames := [nb 23 p true, nx 10 p true]) (p := 26) (r := p + 1) (w := 5) false rfl
      obtain ⟨s11, g11⟩ := go_jump (code := code2) (text := text) (lim := text.size) (start := p) (pc := 32) (pos := p + 1) (handed := p + 1) (weight := 2) (seen := s9) (om := true) (frames := [nb 23 p true, nx 10 p true]) (w := 2) (by decide) rfl rfl
      obtain ⟨k, s12, hk, g12⟩ := fin s11 (p + 1) (p + 1) 23
      have he : end2 text p = p + 1 := if_neg fun h => h10 h.2
      rw [he]
      exact ⟨_, s12, 10, p, by omega, ((((((((((g1.trans g2).trans g3).trans g4).trans g5).trans g6).trans g7).trans g8).trans g9).trans g10).trans g11).trans g12⟩
  · have h10 : text.getD p 0 = 10 := by
      unfold isNl at hc
      rcases Bool.or_eq_true_iff.mp hc with h | h
      · exact beq_iff_eq.mp h
      · exact absurd (beq_iff_eq.mp h) h13
    rw [if_neg (fun h => h13 h.2)] at g2
    have g4 := go_next (code := code2) (text := text) (lim := text.size) (start := p) (pc := 12) (pos := p) (handed := p) (weight := 1) (seen := s2) (om := true) (frames := [nx 10 p true]) (alt := 11) (nxt := 18) true rfl (by decide) (by decide)
    obtain ⟨s5, g5⟩ := go_lit (code := code2) (text := text) (lim := text.size) (start := p) (pc := 19) (pos := p) (handed := p) (weight := 2) (seen := s2) (om := true) (frames := [nb 18 p true, nx 10 p true]) (w := 10) (by decide) rfl rfl
    rw [if_pos ⟨hp, h10⟩] at g5
    obtain ⟨s6, g6⟩ := go_jump (code := code2) (text := text) (lim := text.size) (start := p) (pc := 21) (pos := p + 1) (handed := p) (weight := 2) (seen := s5) (om := true) (frames := [nb 18 p true, nx 10 p true]) (w := 13) (by decide) rfl rfl
    obtain ⟨k, s7, hk, g7⟩ := fin s6 p (p + 1) 18
    have he : end2 text p = p + 1 := if_neg fun h => h13 h.1
    rw [he]
    exact ⟨_, s7, 10, p, by omega, ((((g1.trans g2).trans g4).trans g5).trans g6).trans g7⟩
theorem inset2 (c : Nat) (seen : Seen) : ∃ seen', inSet code2 c code2.size 5 true seen = .ok (isNl c, seen') := by
  rw [sz2]
  unfold inSet
  show ∃ seen', (if (c == 10) = true then Except.ok (true, seen.add 16) else inSet code2 c 35 7 true (seen.add 16)) = _
  unfold isNl
  cases h : c == 10 with
  | true => exact ⟨_, rfl⟩
  | false =>
    unfold inSet
    show ∃ seen', (if false = true then _ else (if (c == 13) = true then Except.ok (true, (seen.add 16).add 16) else inSet code2 c 34 9 true ((seen.add 16).add 16))) = _
    rw [if_neg (by decide)]
    cases h' : c == 13 with
    | true => exact ⟨_, rfl⟩
    | false => exact ⟨_, rfl⟩
/-- the first sign from s on that ends a line -/
noncomputable def nl2 (text : Array Nat) : Nat → Nat → Option Nat
  | 0, _ => none
  | fuel + 1, s => if s < text.size then (if isNl (text.getD s 0) then some s else nl2 text fuel (s + 1)) else none
theorem admitted2 (m : M) (hc : m.code = code2) (ht : m.text = text) (hl : m.lim = text.size) : ∀ (fuel s : Nat) (seen : Seen), ∃ seen', M.admitted m fuel s seen = .ok (nl2 text fuel s, seen')
  | 0, s, seen => ⟨seen, rfl⟩
  | fuel + 1, s, seen => by
    unfold M.admitted nl2
    rw [hc, ht, hl]
    by_cases h : s < text.size
    · rw [if_neg (Nat.not_le.mpr h), if_pos h]
      obtain ⟨s', e⟩ := inset2 (text.getD s 0) seen
      rw [e]
      cases hb : isNl (text.getD s 0) with
      | true => exact ⟨s', rfl⟩
      | false =>
        obtain ⟨s'', e'⟩ := admitted2 m hc ht hl fuel (s + 1) s'
        exact ⟨s'', e'⟩
    · rw [if_pos (Nat.not_lt.mp h), if_neg h]
      exact ⟨seen, rfl⟩
theorem nl2_lt : ∀ {fuel s p : Nat}, nl2 text fuel s = some p → s ≤ p ∧ p < text.size ∧ isNl (text.getD p 0) = true
  | 0, _, _, h => by cases h
  | fuel + 1, s, p, h => by
    unfold nl2 at h
    by_cases hs : s < text.size
    · rw [if_pos hs] at h
      cases hb : isNl (text.getD s 0) with
      | true => rw [hb, if_pos rfl] at h; cases h; exact ⟨Nat.le_refl _, hs, hb⟩
      | false =>
        rw [hb, if_neg Bool.false_ne_true] at h
        have := nl2_lt h
        exact ⟨by omega, this.2⟩
    · rw [if_neg hs] at h; cases h
theorem hdr2 : header code2 = (1, 10) := rfl
theorem start2 {s : Nat} (hs : s < text.size) : forSearch code2 text 0 s text.size false = M.attemptFrom (st code2 text text.size s (({} : Seen).add 14) 10 s s true [] 0 none) s true := by
  unfold forSearch
  rw [hdr2]
  refine (if_neg (α := M) (t := _) (e := _) ?_).trans ?_
  · simp; omega
  · rfl
theorem start2_end {s : Nat} (hs : ¬ s < text.size) : ∃ m : M, m.outcome = none ∧ m.frames = [] ∧ forSearch code2 text 0 s text.size false = { m with answer := some false } := by
  unfold forSearch
  rw [hdr2]
  refine ⟨{ st code2 text text.size s (({} : Seen).add 14) 10 s s true [] 0 none with lastStart := 0 }, rfl, rfl, ?_⟩
  refine (if_pos (α := M) (t := _) (e := _) ?_).trans ?_
  · simp; omega
  · rfl
theorem fails {m : M} (h : m.outcome = none) (hf : m.frames = []) : Goes { m with answer := some false } 1 { m with answer := some false, outcome := some .failed } := by
  refine Goes.one h ?_
  unfold M.step
  show (if m.outcome.isSome = true then _ else (match some false, m.frames with | some yes, [] => _ | some yes, f :: rest => _ | none, _ => _)) = _
  rw [h, hf]
  rfl
/-- what pattern 2 finds from s on -/
theorem search2 (s : Nat) : ∃ k m', k ≤ 60 ∧ Goes (forSearch code2 text 0 s text.size false) k m' ∧
    match nl2 text (text.size + 1 - s) s with
    | some p => m'.outcome = some .matched ∧ m'.start = p ∧ m'.handed = end2 text p ∧ m'.lastmark = -1 ∧ m'.marks = #[]
    | none => m'.outcome = some .failed := by
  by_cases hlt : s < text.size
  · obtain ⟨seen1, ha⟩ := admitted2 (text := text) (st code2 text text.size s (({} : Seen).add 14) 10 s s true [] 0 none) rfl rfl rfl (text.size + 1 - s) s (({} : Seen).add 14)
    rw [start2 hlt]
    have hf : (st code2 text text.size s (({} : Seen).add 14) 10 s s true [] 0 none).hasFirstSet = true := rfl
    cases hn : nl2 text (text.size + 1 - s) s with
    | none =>
      rw [hn] at ha
      have e : M.attemptFrom (st code2 text text.size s (({} : Seen).add 14) 10 s s true [] 0 none) s true = { st code2 text text.size s seen1 10 s s true [] 0 none with answer := some false } := by
        unfold M.attemptFrom
        show (if (!M.hasFirstSet (st code2 text text.size s (({} : Seen).add 14) 10 s s true [] 0 none)) = true then _ else (match M.admitted (st code2 text text.size s (({} : Seen).add 14) 10 s s true [] 0 none) (text.size + 1 - s) s (({} : Seen).add 14) with | .ok (some s', seen) => _ | .ok (none, seen) => _ | .error why => _)) = _
        rw [hf, ha]
        rfl
      rw [e]
      exact ⟨1, _, by decide, fails rfl rfl, rfl⟩
    | some p =>
      obtain ⟨hsp, hp, hc⟩ := nl2_lt hn
      obtain ⟨k, s', pc', pos', hk, g⟩ := match2 p hp hc seen1
      rw [hn] at ha
      have e : M.attemptFrom (st code2 text text.size s (({} : Seen).add 14) 10 s s true [] 0 none) s true = st code2 text text.size p seen1 10 p p true [nx 10 p true] 1 none := by
        unfold M.attemptFrom
        show (if (!M.hasFirstSet (st code2 text text.size s (({} : Seen).add 14) 10 s s true [] 0 none)) = true then _ else (match M.admitted (st code2 text text.size s (({} : Seen).add 14) 10 s s true [] 0 none) (text.size + 1 - s) s (({} : Seen).add 14) with | .ok (some s', seen) => _ | .ok (none, seen) => _ | .error why => _)) = _
        rw [hf, ha]
        rfl
      rw [e]
      exact ⟨k, _, by omega, g, rfl, rfl, rfl, rfl, rfl⟩
  · obtain ⟨m, h1, h2, e⟩ := start2_end hlt
    have hn : nl2 text (text.size + 1 - s) s = none := by
      cases text.size + 1 - s with
      | zero => rfl
      | succ f => unfold nl2; rw [if_neg hlt]
    rw [e, hn]
    exact ⟨1, _, by decide, fails h1 h2, rfl⟩
end
end Mine
end
section
-- Sre3
example : True := by
  w_top off
  trivial
namespace Mine
open PySem.Sre
section
variable {text : Array Nat}
noncomputable def isDot (text : Array Nat) (p : Nat) : Bool := (p == 0 || text.getD (p - 1) 0 == 10) && (decide (p < text.size) && text.getD p 0 == 46)
theorem sz1 : code1.size = 10 := rfl
/-- the machine stands at p, about to try -/
noncomputable def at1 (text : Array Nat) (p : Nat) (om : Bool) (seen : Seen) : M := st code1 text text.size p seen 5 p p om [nx 5 p om] 1 none
theorem yes1 (p : Nat) (om : Bool) (seen : Seen) (h : isDot text p = true) : ∃ k seen' pc' pos' om', k ≤ 10 ∧ Goes (at1 text p om seen) k { st code1 text text.size p seen' pc' pos' (p + 1) om' [] 0 (some true) with outcome := some .matched } := by
  unfold isDot at h
  simp only [Bool.and_eq_true, Bool.or_eq_true, beq_iff_eq, decide_eq_true_eq] at h
  obtain ⟨s1, g1⟩ := go_at (code := code1) (text := text) (lim := text.size) (start := p) (pc := 5) (pos := p) (handed := p) (weight := 1) (seen := seen) (om := om) (frames := [nx 5 p om]) (by decide) rfl rfl
  rw [if_pos h.1] at g1
  obtain ⟨s2, g2⟩ := go_lit (code := code1) (text := text) (lim := text.size) (start := p) (pc := 7) (pos := p) (handed := p) (weight := 1) (seen := s1) (om := om) (frames := [nx 5 p om]) (w := 46) (by decide) rfl rfl
  rw [if_pos h.2] at g2
  obtain ⟨s3, g3⟩ := go_succ (code := code1) (text := text) (lim := text.size) (start := p) (pc := 9) (pos := p + 1) (handed := p) (weight := 1) (seen := s2) (om := om) (frames := [nx 5 p om]) (by decide) rfl
  have g4 := go_yes (code := code1) (text := text) (lim := text.size) (start := p) (pc := 9) (pos := p + 1) (handed := p + 1) (weight := 0) (seen := s3) (om := om) (f := nx 5 p om) (frames := []) (.inr rfl) rfl
  have g5 := go_end (code := code1) (text := text) (lim := text.size) (start := p) (pc := 5) (pos := p) (handed := p + 1) (weight := 0) (seen := s3) (om := om) true
  exact ⟨_, s3, 5, p, om, by decide, (((g1.trans g2).trans g3).trans g4).trans g5⟩
theorem no1 (p : Nat) (om : Bool) (seen : Seen) (h : isDot text p = false) : ∃ k seen' pc' pos' h', k ≤ 3 ∧ Goes (at1 text p om seen) k (st code1 text text.size p seen' pc' pos' h' om [nx 5 p om] 1 (some false)) := by
  obtain ⟨s1, g1⟩ := go_at (code := code1) (text := text) (lim := text.size) (start := p) (pc := 5) (pos := p) (handed := p) (weight := 1) (seen := seen) (om := om) (frames := [nx 5 p om]) (by decide) rfl rfl
  by_cases h1 : p = 0 ∨ text.getD (p - 1) 0 = 10
  · rw [if_pos h1] at g1
    obtain ⟨s2, g2⟩ := go_lit (code := code1) (text := text) (lim := text.size) (start := p) (pc := 7) (pos := p) (handed := p) (weight := 1) (seen := s1) (om := om) (frames := [nx 5 p om]) (w := 46) (by decide) rfl rfl
    rw [if_neg (fun h2 => by
      have : isDot text p = true := by
        unfold isDot
        simp only [Bool.and_eq_true, Bool.or_eq_true, beq_iff_eq, decide_eq_true_eq]
        exact ⟨h1, h2⟩
      rw [h] at this; cases this)] at g2
    exact ⟨_, s2, _, _, _, by decide, g1.trans g2⟩
  · rw [if_neg h1] at g1
    exact ⟨_, s1, _, _, _, by decide, g1⟩
theorem on1 {p pc pos h : Nat} {om : Bool} {seen : Seen} (hp : p < text.size) : Goes (st code1 text text.size p seen pc pos h om [nx 5 p om] 1 (some false)) 1 (at1 text (p + 1) false seen) := by
  refine Goes.one rfl ?_
  unfold M.step
  show M.resume (st code1 text text.size p seen 5 p h om [] 0 none) (nx 5 p om) false = _
  show (if p < text.size then M.attemptFrom (st code1 text text.size p seen 5 p h om [] 0 none) (p + 1) false else _) = _
  rw [if_pos hp]
  rfl
theorem off1 {p pc pos h : Nat} {om : Bool} {seen : Seen} (hp : ¬ p < text.size) : ∃ m', Goes (st code1 text text.size p seen pc pos h om [nx 5 p om] 1 (some false)) 2 m' ∧ m'.outcome = some .failed := by
  have g : Goes (st code1 text text.size p seen pc pos h om [nx 5 p om] 1 (some false)) 1 { st code1 text text.size p seen 5 p h om [] 0 none with answer := some false } := by
    refine Goes.one rfl ?_
    unfold M.step
    show M.resume (st code1 text text.size p seen 5 p h om [] 0 none) (nx 5 p om) false = _
    show (if p < text.size then _ else _) = _
    rw [if_neg hp]
    rfl
  exact ⟨_, g.trans (fails rfl rfl), rfl⟩
/-- the first dot from s on that begins a line -/
noncomputable def dot1 (text : Array Nat) : Nat → Nat → Option Nat
  | 0, _ => none
  | fuel + 1, s => if isDot text s then some s else dot1 text fuel (s + 1)
theorem scan1 : ∀ (n p : Nat) (om : Bool) (seen : Seen), text.size - p = n → p ≤ text.size → ∃ k m', k ≤ 4 * n + 10 ∧ Goes (at1 text p om seen) k m' ∧
    match dot1 text (n + 1) p with
    | some q => m'.outcome = some .matched ∧ m'.start = q ∧ m'.handed = q + 1 ∧ m'.lastmark = -1 ∧ m'.marks = #[]
    | none => m'.outcome = some .failed
  | n, p, om, seen, hn, hp => by
    unfold dot1
    cases hd : isDot text p with
    | true =>
      obtain ⟨k, s', pc', pos', om', hk, g⟩ := yes1 p om seen hd
      rw [if_pos rfl]
      exact ⟨k, _, by omega, g, rfl, rfl, rfl, rfl, rfl⟩
    | false =>
      obtain ⟨k, s', pc', pos', h', hk, g⟩ := no1 p om seen hd
      rw [if_neg Bool.false_ne_true]
      by_cases hlt : p < text.size
      · cases n with
        | zero => omega
        | succ n =>
          obtain ⟨k2, m', hk2, g2, r⟩ := scan1 n (p + 1) false s' (by omega) (by omega)
          exact ⟨k + 1 + k2, m', by omega, (g.trans (on1 hlt)).trans g2, r⟩
      · have h0 : n = 0 := by omega
        subst h0
        obtain ⟨m', g2, r⟩ := off1 (text := text) (p := p) (pc := pc') (pos := pos') (h := h') (om := om) (seen := s') hlt
        exact ⟨k + 2, m', by omega, g.trans g2, r⟩
theorem hdr1 : header code1 = (1, 5) := rfl
theorem start1 {s : Nat} (hs : s < text.size) : forSearch code1 text 0 s text.size false = at1 text s true (({} : Seen).add 14) := by
  unfold forSearch
  rw [hdr1]
  refine (if_neg (α := M) (t := _) (e := _) ?_).trans ?_
  · simp; omega
  · rfl
theorem start1_end {s : Nat} (hs : ¬ s < text.size) : ∃ m : M, m.outcome = none ∧ m.frames = [] ∧ forSearch code1 text 0 s text.size false = { m with answer := some false } := by
  unfold forSearch
  rw [hdr1]
  refine ⟨{ st code1 text text.size s (({} : Seen).add 14) 5 s s true [] 0 none with lastStart := 0 }, rfl, rfl, ?_⟩
  refine (if_pos (α := M) (t := _) (e := _) ?_).trans ?_
  · simp; omega
  · rfl
theorem dot1_out : ∀ (f s : Nat), ¬ s < text.size → dot1 text f s = none
  | 0, _, _ => rfl
  | f + 1, s, h => by
    unfold dot1
    have : isDot text s = false := by
      unfold isDot
      simp [h]
    rw [this, if_neg Bool.false_ne_true]
    exact dot1_out f (s + 1) (by omega)
/-- what pattern 1 finds from s on -/
theorem search1 (s : Nat) : ∃ k m', k ≤ 4 * (text.size - s) + 10 ∧ Goes (forSearch code1 text 0 s text.size false) k m' ∧
    match dot1 text (text.size - s + 1) s with
    | some q => m'.outcome = some .matched ∧ m'.start = q ∧ m'.handed = q + 1 ∧ m'.lastmark = -1 ∧ m'.marks = #[]
    | none => m'.outcome = some .failed := by
  by_cases hlt : s < text.size
  · rw [start1 hlt]
    exact scan1 (text.size - s) s true _ rfl (Nat.le_of_lt hlt)
  · obtain ⟨m, h1, h2, e⟩ := start1_end hlt
    rw [e, dot1_out _ s hlt]
    exact ⟨1, _, by omega, fails h1 h2, rfl⟩
end
end Mine
end
section
-- ReSub
example : True := by
  w_top off
  trivial
open PySem PySem.W PyProof.Rows PySem.Spec PySem.Calls PySem.Builtin PySem.Builtin.Re
namespace Mine
section
variable {prog : Program} {w : World} {A : Around} {E : Value → Shared → Prop} {s : Shared}

theorem wp_drive {m m' : Sre.M} {k : Nat} (g : Goes m k m') (ho : m'.outcome.isSome = true) {Q : Sre.M → Shared → Prop} (h : Q m' s) :
    ∀ (turns : Nat) (j : Nat), k ≤ j + 4 * turns → turns ≠ 0 → ∀ m₁, Goes m j m₁ → wpAny (model prog w) A (reDrive turns m₁) Q E s
  | 0, _, _, h0, _, _ => absurd rfl h0
  | turns + 1, j, hk, _, m₁, g₁ => by
    have g2 : Goes m (j + 4) (m₁.runFor 4) := g₁.trans rfl
    have e : reDrive (turns + 1) m₁ = (if (m₁.runFor reTurnSteps).outcome.isSome then pure (m₁.runFor reTurnSteps) else do rule "sre.turn"; reDrive turns (m₁.runFor reTurnSteps)) := rfl
    rw [e]
    show wpAny (model prog w) A (if (m₁.runFor 4).outcome.isSome = true then _ else _) Q E s
    by_cases hs : (m₁.runFor 4).outcome.isSome = true
    · rw [if_pos hs]
      have same : m₁.runFor 4 = m' := by
        rcases Nat.le_total k (j + 4) with hle | hle
        · obtain ⟨d, hd⟩ := Nat.le.dest hle
          have q := g2
          rw [← hd] at q
          have q' : Sre.M.runFor (k + d) m = m₁.runFor 4 := q
          rw [runFor_add, (g : Sre.M.runFor k m = m'), runFor_done ho] at q'
          exact q'.symm
        · obtain ⟨d, hd⟩ := Nat.le.dest hle
          have q := g
          rw [← hd] at q
          have q' : Sre.M.runFor (j + 4 + d) m = m' := q
          rw [runFor_add, (g2 : Sre.M.runFor (j + 4) m = _), runFor_done hs] at q'
          exact q'
      show wpAny _ _ (pure (m₁.runFor 4)) _ _ _
      rw [same]
      exact wpAny_pure h
    · rw [if_neg hs]
      refine wpAny_bind (wpAny_rule ?_)
      have hlt : j + 4 < k := by
        rcases Nat.lt_or_ge (j + 4) k with h1 | h1
        · exact h1
        · obtain ⟨d, hd⟩ := Nat.le.dest h1
          exfalso
          apply hs
          have q : Sre.M.runFor (k + d) m = m₁.runFor 4 := by rw [hd]; exact g2
          rw [runFor_add, (g : Sre.M.runFor k m = m'), runFor_done ho] at q
          rw [← q]; exact ho
      cases turns with
      | zero => omega
      | succ turns => exact wp_drive g ho h (turns + 1) (j + 4) (by omega) (by omega) _ g2
theorem wp_rules (m : Sre.M) {Q : PUnit → Shared → Prop} (h : Q ⟨⟩ s) : ∀ l : List Nat,
    wpAny (model prog w) A (forIn l PUnit.unit fun i _ => do
      if m.seen.has i then rule (Sre.names.getD i "")
      pure (ForInStep.yield PUnit.unit)) Q E s
  | [] => wpAny_pure h
  | i :: r => by
    rw [List.forIn_cons]
    refine wpAny_bind ?_
    cases m.seen.has i with
    | true => exact wpAny_bind (wpAny_rule (wpAny_pure (wp_rules m h r)))
    | false => exact wpAny_pure (wp_rules m h r)
theorem wp_toEnd {m m' : Sre.M} {k : Nat} (g : Goes m k m') (hk : k ≤ 4 * 2 ^ 64) {Q : Option Sre.M → Shared → Prop}
    (h : (m'.outcome = some .matched ∧ Q (some m') s) ∨ (m'.outcome = some .failed ∧ Q none s)) : wpAny (model prog w) A (reRunToEnd m) Q E s := by
  unfold reRunToEnd
  have ho : m'.outcome.isSome = true := by rcases h with h | h <;> rw [h.1] <;> rfl
  refine wpAny_bind (wp_drive g ho ?_ (2 ^ 64) 0 (by omega) (by decide) m rfl)
  refine wpAny_bind (wp_rules m' ?_ _)
  rcases h with ⟨e, h⟩ | ⟨e, h⟩
  · rw [e]; exact wpAny_pure h
  · rw [e]; exact wpAny_pure h
/-- the pieces that sub glues together -/
noncomputable def subPieces (fnd : Nat → Option (Nat × Nat)) (x r : Str) : Nat → Nat → List Str
  | 0, _ => []
  | f + 1, d => match fnd d with
    | some (p, q) => (if d < p then [⟨x.cps.extract d p⟩] else []) ++ r :: subPieces fnd x r f q
    | none => if d < x.cps.size then [⟨x.cps.extract d x.cps.size⟩] else []
noncomputable def subOf (fnd : Nat → Option (Nat × Nat)) (x r : Str) : Str := Txt.join (Str.ofString "") (subPieces fnd x r (x.cps.size + 1) 0)
/-- fnd tells what the machine of the code finds in the text -/
noncomputable def Finds (code text : Array Nat) (fnd : Nat → Option (Nat × Nat)) : Prop :=
  ∀ d, d ≤ text.size → ∃ k m', k ≤ 4 * 2 ^ 64 ∧ Goes (Sre.forSearch code text 0 d text.size false) k m' ∧
    match fnd d with
    | some (p, q) => m'.outcome = some .matched ∧ m'.start = p ∧ m'.handed = q ∧ d ≤ p ∧ p < q ∧ q ≤ text.size
    | none => m'.outcome = some .failed
theorem entry_loop : entryFor table "re.Pattern.sub.loop" = some Builtin.«re.Pattern.sub.loop» := entryFor_of_tree (by kernel_rfl)
theorem plain_loop : plainId "re.Pattern.sub.loop" = true := by decide +kernel
theorem entry_sub : entryFor table "re.Pattern.sub" = some Builtin.«re.Pattern.sub» := entryFor_of_tree (by kernel_rfl)
theorem plain_sub : plainId "re.Pattern.sub" = true := by decide +kernel
/-- a pattern object for strings, with its code -/
structure PatAt (h : Heap) (pat c : Addr) (code : Array Nat) : Prop where
  obj : ∃ o p0 p1 p3 p4, h.get? pat = some o ∧ o.data = .fields #[p0, p1, .int 0 0, p3, p4, .ref c, .int 0 0]
  items : ∃ o its n, h.get? c = some o ∧ o.data = .seq its n ∧ (its.map reRawOf).map (·.toNat) = code
theorem PatAt.mono {h h' : Heap} {pat c : Addr} {code : Array Nat} (P : PatAt h pat c code) (k : ∀ b, b = pat ∨ b = c → h'.get? b = h.get? b) : PatAt h' pat c code :=
  ⟨let ⟨o, p0, p1, p3, p4, e, d⟩ := P.obj; ⟨o, p0, p1, p3, p4, (k _ (.inl rfl)).trans e, d⟩, let ⟨o, its, n, e, d⟩ := P.items; ⟨o, its, n, (k _ (.inr rfl)).trans e, d⟩⟩
theorem wp_target {pat c : Addr} {code : Array Nat} (P : PatAt s.heap pat c code) {x : Str} {t : Tok} {Q : ReTarget → Shared → Prop}
    (h : Q { pattern := .ref pat, string := .str x t, code := code, text := x.cps, kind := 0, groups := 0, pos := 0, lim := x.cps.size } s) :
    wpAny (model prog w) A (reWholeTarget (.ref pat) (.str x t)) Q E s := by
  obtain ⟨o, p0, p1, p3, p4, e, d⟩ := P.obj
  obtain ⟨o2, its, n, e2, d2, hc⟩ := P.items
  unfold reWholeTarget
  refine wpAny_bind (wpAny_fieldsOf e d ?_)
  refine wpAny_bind (wpAny_pure ?_)
  refine wpAny_bind (wpAny_pure ?_)
  refine wpAny_bind ?_
  refine wpAny_bind (wpAny_seqItems e2 d2 (wpAny_pure ?_))
  refine wpAny_pure ?_
  show Q { pattern := .ref pat, string := .str x t, code := (its.map reRawOf).map (·.toNat), text := x.cps, kind := 0, groups := 0, pos := 0, lim := x.cps.size } s
  rw [hc]; exact h
theorem isList_push {h : Heap} {l : Addr} {items : Array Value} (hl : h.IsList l items) (v : Value) : (h.update l (Obj.mapSeq (·.push v))).IsList l (items.push v) := by
  obtain ⟨o, ho, hc, n, hd⟩ := hl
  obtain ⟨n', hd'⟩ := Obj.data_mapSeq hd (·.push v)
  exact ⟨_, Heap.get?_update_self _ ho (Obj.isFreed_of_seq hd'), (Obj.cls_mapSeq ..).trans hc, n', hd'⟩
theorem wp_push {l : Addr} {items : Array Value} (hl : s.heap.IsList l items) (v : Value) (hz : items.size < 2 ^ 24) {Q : Unit → Shared → Prop}
    (h : ∀ h', h'.IsList l (items.push v) → Heap.SameBut l s.heap h' → Q () { s with heap := h' }) : wpAny (model prog w) A (updateSeq l (·.push v)) Q E s := by
  have hp := isList_push hl v
  obtain ⟨o, ho, hc, n, hd⟩ := hl
  refine wpAny_updateSeq ho hd (h _ hp (Heap.SameBut.update ..)) ?_ ?_
  · show _ ≤ 2 ^ 24; omega
  · rw [Array.size_push]; show _ ≤ 2 ^ 24 + 1; omega
theorem join_ok {x : Str} {pl : List (Str × Tok)} (hx : x.cps.size ≤ 2000) (hlen : pl.length ≤ 2 * x.cps.size + 1) (hB : ∀ y ∈ pl.map (·.1), y.length ≤ 2000) : JoinOk (Str.ofString "") (pl.map (·.1)) = true := by
  unfold JoinOk
  rw [StrLaws.joinFits (B := 2000) hB ?_]
  · rfl
  · rw [List.length_map]
    have : (Str.ofString "").length = 0 := rfl
    rw [this, Nat.mul_zero, Nat.add_zero]
    have : pl.length * 2000 ≤ 4001 * 2000 := Nat.mul_le_mul_right _ (by omega)
    omega
theorem sub_loop {pat c P : Addr} {code : Array Nat} {x r : Str} {t tr : Tok} {fnd : Nat → Option (Nat × Nat)} (hf : Finds code x.cps fnd) (hx : x.cps.size ≤ 2000) (hr : r.length ≤ 2000)
    (hp : pat ≠ P) (hc : c ≠ P) {R : Result → Shared → Prop} :
    ∀ (f d n : Nat) (pl : List (Str × Tok)) (s : Shared), x.cps.size + 1 ≤ d + f → d ≤ x.cps.size → PatAt s.heap pat c code → s.heap.IsList P (strValues pl).toArray → pl.length ≤ 2 * d → (∀ y ∈ pl.map (·.1), y.length ≤ 2000) →
    (∀ h' tk t', Heap.SameBut P s.heap h' → R (.ok (.ret (.str (Txt.join (Str.ofString "") (pl.map (·.1) ++ subPieces fnd x r f d)) t'))) { s with heap := h', toks := tk }) →
    codeAny (model prog w) A (.builtin "re.Pattern.sub.loop" ⟨[.ref pat, .str x t, .str r tr, rawInt 0, rawInt 0, rawInt n, rawInt d, rawInt d, .bool false, .ref P, .bool false], []⟩) R s
  | 0, d, _, _, _, h1, h2, _, _, _, _, _ => absurd h1 (by omega)
  | f + 1, d, n, pl, s, h1, h2, hP, hL, hlen, hB, hq => by
    refine codeAny_builtin entry_loop ?_
    rw [Around.under_plainId plain_loop _]
    unfold Builtin.«re.Pattern.sub.loop»
    refine wpAny_bind (wp_target hP ?_)
    refine wpAny_bind ?_
    show wpAny _ _ (pure PUnit.unit) _ _ _
    refine wpAny_pure ?_
    show wpAny _ _ ((reRunToEnd (Sre.forSearch code x.cps 0 d x.cps.size false)) >>= _) _ _ _
    obtain ⟨k, m', hk, g, hm⟩ := hf d h2
    refine wpAny_bind (wp_toEnd g hk ?_)
    cases hfd : fnd d with
    | none =>
      rw [hfd] at hm
      refine .inr ⟨hm, ?_⟩
      have last : ∀ (pl' : List (Str × Tok)) (s' : Shared), s'.heap.IsList P (strValues pl').toArray → Heap.SameBut P s.heap s'.heap → s'.gens = s.gens → s'.drawn = s.drawn → s'.os = s.os → pl'.map (·.1) = pl.map (·.1) ++ subPieces fnd x r (f + 1) d → pl'.length ≤ 2 * x.cps.size + 1 → (∀ y ∈ pl'.map (·.1), y.length ≤ 2000) →
          wpAny (model prog w) A.in1 (do
            let joiner ← reSlice x.cps 0 0 0
            let text ← if ((← seqItems? (.ref P)).getD #[]).isEmpty then pure joiner
              else call (.builtin "str.join") [joiner, .ref P]
            ret text) (fun fin s' => match fin with | .done f => R (.ok f) s' | .again c' => c'.quiet = true ∧ codeAny (model prog w) A c' R s') (fun e s' => R (.error e) s') s' := by
        intro pl' s' hL' hS eg ed eo em hl' hB'
        obtain ⟨h', g', d', tk', o'⟩ := s'
        simp only at hL' hS eg ed eo
        subst eg ed eo
        refine wpAny_bind (wpAny_mkStr ?_ (by show (x.cps.extract 0 0).size ≤ 2 ^ 24; simp))
        obtain ⟨o, hoP, hoc, no, hod⟩ := id hL'
        refine wpAny_bind (wpAny_seqItems hoP hod ?_)
        have e0 : (⟨x.cps.extract 0 0⟩ : Str) = Str.ofString "" := by
          have : x.cps.extract 0 0 = #[] := by simp
          rw [this]; rfl
        cases pl' with
        | nil =>
          show wpAny _ _ (pure (Value.str ⟨x.cps.extract 0 0⟩ tk') >>= fun text => ret text) _ _ _
          refine wpAny_bind (wpAny_pure (wpAny_pure ?_))
          have := hq h' (tk' + 1) tk' hS
          rw [← em] at this
          rw [e0]
          exact this
        | cons a pl' =>
          show wpAny _ _ (call (.builtin "str.join") [Value.str ⟨x.cps.extract 0 0⟩ tk', .ref P] >>= fun text => ret text) _ _ _
          rw [e0]
          refine wpAny_bind (SC.join hL' rfl (join_ok hx hl' hB') fun t' k' => wpAny_pure ?_)
          rw [em]
          exact hq h' k' t' hS
      show wpAny _ _ (if d < x.cps.size then (reSlice x.cps 0 d x.cps.size >>= fun v => updateSeq P (·.push v) >>= fun _ => (do
            let joiner ← reSlice x.cps 0 0 0
            let text ← if ((← seqItems? (.ref P)).getD #[]).isEmpty then pure joiner
              else call (.builtin "str.join") [joiner, .ref P]
            ret text)) else (do
            let joiner ← reSlice x.cps 0 0 0
            let text ← if ((← seqItems? (.ref P)).getD #[]).isEmpty then pure joiner
              else call (.builtin "str.join") [joiner, .ref P]
            ret text)) _ _ _
      by_cases hlt : d < x.cps.size
      · rw [if_pos hlt]
        refine wpAny_bind (wpAny_mkStr ?_ (by show (x.cps.extract d x.cps.size).size ≤ 2 ^ 24; simp; omega))
        refine wpAny_bind (wp_push (by exact hL) _ (by simp [strValues]; omega) fun h' hL' hS' => ?_)
        refine last (pl ++ [(⟨x.cps.extract d x.cps.size⟩, s.toks)]) _ ?_ hS' rfl rfl rfl ?_ ?_ ?_
        · simpa [strValues] using hL'
        · simp [subPieces, hfd, hlt]
        · simp; omega
        · intro y hy
          rw [List.map_append] at hy
          rcases List.mem_append.mp hy with hy | hy
          · exact hB y hy
          · rw [List.mem_singleton.mp hy]
            show (x.cps.extract d x.cps.size).size ≤ 2000
            simp; omega
      · rw [if_neg hlt]
        refine last pl _ hL (Heap.SameBut.refl ..) rfl rfl rfl ?_ (by omega) hB
        simp [subPieces, hfd, hlt]
    | some pq =>
      obtain ⟨p, q⟩ := pq
      rw [hfd] at hm
      obtain ⟨ho, hs, hh, hdp, hpq, hqx⟩ := hm
      refine .inl ⟨ho, ?_⟩
      have next : ∀ (pl' : List (Str × Tok)) (s' : Shared), s'.heap.IsList P (strValues pl').toArray → Heap.SameBut P s.heap s'.heap → s'.gens = s.gens → s'.drawn = s.drawn → s'.os = s.os → pl'.map (·.1) ++ r :: subPieces fnd x r f q = pl.map (·.1) ++ subPieces fnd x r (f + 1) d → pl'.length ≤ 2 * d + 1 → (∀ y ∈ pl'.map (·.1), y.length ≤ 2000) →
          wpAny (model prog w) A.in1 (updateSeq P (·.push (.str r tr)) >>= fun _ => again (.builtin "re.Pattern.sub.loop" ⟨[.ref pat, .str x t, .str r tr, rawInt 0, rawInt 0, rawInt ((n : Int) + 1), rawInt m'.handed, rawInt m'.handed, .bool (m'.handed == m'.start), .ref P, .bool false], []⟩))
            (fun fin s' => match fin with | .done f => R (.ok f) s' | .again c' => c'.quiet = true ∧ codeAny (model prog w) A c' R s') (fun e s' => R (.error e) s') s' := by
        intro pl' s' hL' hS eg ed eo em hl' hB'
        obtain ⟨h', g', d', tk', o'⟩ := s'
        simp only at hL' hS eg ed eo
        subst eg ed eo
        refine wpAny_bind (wp_push (by exact hL') _ (by simp [strValues]; omega) fun h2 hL2 hS2 => ?_)
        have hm2 : (m'.handed == m'.start) = false := by rw [hh, hs]; simp; omega
        rw [hm2, hh]
        have hSS : Heap.SameBut P s.heap h2 := hS.trans hS2
        refine wpAny_pure ⟨plainId_quiet plain_loop _, sub_loop hf hx hr hp hc f q (n + 1) (pl' ++ [(r, tr)]) _ (by omega) hqx ?_ (by simpa [strValues] using hL2) (by simp; omega) ?_ ?_⟩
        · refine hP.mono ?_
          rintro b (rfl | rfl)
          · exact hSS.2 _ hp
          · exact hSS.2 _ hc
        · intro y hy
          rw [List.map_append] at hy
          rcases List.mem_append.mp hy with hy | hy
          · exact hB' y hy
          · rw [List.mem_singleton.mp hy]
            exact hr
        · intro h3 tk3 t3 hS3
          have := hq h3 tk3 t3 (hSS.trans hS3)
          rw [← em] at this
          simpa using this
      show wpAny _ _ (if d < m'.start then (reSlice x.cps 0 d m'.start >>= fun v => updateSeq P (·.push v) >>= fun _ => (updateSeq P (·.push (.str r tr)) >>= fun _ => again (.builtin "re.Pattern.sub.loop" ⟨[.ref pat, .str x t, .str r tr, rawInt 0, rawInt 0, rawInt ((n : Int) + 1), rawInt m'.handed, rawInt m'.handed, .bool (m'.handed == m'.start), .ref P, .bool false], []⟩)))
        else (updateSeq P (·.push (.str r tr)) >>= fun _ => again (.builtin "re.Pattern.sub.loop" ⟨[.ref pat, .str x t, .str r tr, rawInt 0, rawInt 0, rawInt ((n : Int) + 1), rawInt m'.handed, rawInt m'.handed, .bool (m'.handed == m'.start), .ref P, .bool false], []⟩))) _ _ _
      rw [hs]
      rw [hs] at next
      by_cases hlt : d < p
      · rw [if_pos hlt]
        refine wpAny_bind (wpAny_mkStr ?_ (by show (x.cps.extract d p).size ≤ 2 ^ 24; simp; omega))
        refine wpAny_bind (wp_push (by exact hL) _ (by simp [strValues]; omega) fun h' hL' hS' => ?_)
        refine next (pl ++ [(⟨x.cps.extract d p⟩, s.toks)]) _ ?_ hS' rfl rfl rfl ?_ ?_ ?_
        · simpa [strValues] using hL'
        · simp [subPieces, hfd, hlt]
        · simp; omega
        · intro y hy
          rw [List.map_append] at hy
          rcases List.mem_append.mp hy with hy | hy
          · exact hB y hy
          · rw [List.mem_singleton.mp hy]
            show (x.cps.extract d p).size ≤ 2000
            simp; omega
      · rw [if_neg hlt]
        refine next pl _ hL (Heap.SameBut.refl ..) rfl rfl rfl ?_ (by omega) hB
        simp [subPieces, hfd, hlt]
end
end Mine
end
section
-- ReSub2
example : True := by
  w_top off
  trivial
open PySem PySem.W PyProof.Rows PySem.Spec PySem.Calls PySem.Builtin PySem.Builtin.Re
namespace Mine
theorem plainAttrs_pat : PlainAttrs "re.Pattern" :=
  ⟨⟨"object.__getattribute__", by rw [typeLookup_type, builtinLookup_eq_fast]; kernel_rfl, by decide +kernel⟩, by rw [typeLookup_type, builtinLookup_eq_fast]; kernel_rfl⟩
theorem owner_pat : Manifest.owners.lookup (String.ofList ['n', 'r', 'e', 't', 't', 'a', 'P', '.', 'e', 'r'].reverse) = some Manifest.sig_re_Pattern := by kernel_rfl
theorem slot_sub : Slot "re.Pattern" "sub" "re.Pattern.sub" :=
  .of (owner := "re.Pattern") (n := "sub") (by rw [typeLookup_type, builtinLookup_eq_fast]; kernel_rfl) (by decide +kernel) (by decide +kernel) (by decide +kernel)
    (by first | exact .inl (by decide +kernel) | exact .inr (by decide +kernel)) (by rw [isSubtype_type]; kernel_rfl)
theorem type_sub : typeOf (.builtin "re.Pattern.sub") = pure (.type "method_descriptor") := by show builtinType _ = _; rw [builtinType_eq_fast]; kernel_rfl
theorem args_sub (a b c : Value) : argsOk "re.Pattern.sub" ⟨[a, b, c], []⟩ := by
  unfold argsOk; rw [signature?_of (id := "re.Pattern.sub") (n := ['b', 'u', 's']) (o := ['n', 'r', 'e', 't', 't', 'a', 'P', '.', 'e', 'r']) (by kernel_rfl) owner_pat]; kernel_rfl
section
variable {prog : Program} {w : World} {A : Around} {E : Value → Shared → Prop} {s : Shared}
theorem noCall_str : typeLookup (.type "str") "__call__" = pure none := by rw [typeLookup_type, builtinLookup_eq_fast]; kernel_rfl
theorem named_sub (a b : Value) : reNamed "re.Pattern.sub" "sub" ["repl", "string", "count"] 2 [a, b] [] = pure [some a, some b, none] := by rfl
theorem wp_sub {pat c : Addr} {code : Array Nat} {x r : Str} {t tr : Tok} {fnd : Nat → Option (Nat × Nat)} (hf : Finds code x.cps fnd) (hx : x.cps.size ≤ 2000) (hr : r.length ≤ 2000) (h92 : r.cps.contains 92 = false)
    (hT : s.TypeIs (.ref pat) "re.Pattern") (hP : PatAt s.heap pat c code) {Q : Value → Shared → Prop}
    (hq : ∀ h' tk t', Heap.SameBut s.heap.objs.size (s.heap.push { cls := .type "list", data := .seq #[] }) h' → Q (.str (subOf fnd x r) t') { s with heap := h', toks := tk }) :
    wpAny (model prog w) A (call (.builtin "re.Pattern.sub") [.ref pat, .str r tr, .str x t]) Q E s := by
  refine wpAny_call (codeAny_call_builtin slot_sub.plain entry_sub (slot_sub.check _ _ _ _ _ _ _ _ hT (args_sub _ _ _) ?_))
  unfold Builtin.«re.Pattern.sub» reSubstitute
  show wpAny _ _ (reNamed "re.Pattern.sub" "sub" ["repl", "string", "count"] 2 [.str r tr, .str x t] [] >>= _) _ _ _
  rw [named_sub]
  refine wpAny_bind (wpAny_pure ?_)
  dsimp only
  refine wpAny_bind (wpAny_pure ?_)
  refine wpAny_bind (wpAny_specialOf (T := "str") (typeIs_str _ _ _) noCall_str ?_)
  rw [if_neg (show ¬ (none : Option Value).isSome = true from Bool.false_ne_true)]
  refine wpAny_bind (wpAny_pure ?_)
  show wpAny _ _ (pure (!r.cps.contains 92) >>= _) _ _ _
  rw [h92]
  refine wpAny_bind (wpAny_pure ?_)
  rw [if_neg (show ¬ (none : Option Value).isSome = true from Bool.false_ne_true), if_pos (show (!false) = true from rfl)]
  refine wpAny_bind (wpAny_pure ?_)
  refine wpAny_bind (wpAny_holding (wp_target hP ?_))
  rw [if_neg (show ¬ ((0 : Int) == 1) = true from Bool.false_ne_true)]
  refine wpAny_bind (wpAny_newList ?_ (by decide))
  obtain ⟨o, p0, p1, p3, p4, e, d⟩ := id hP.obj
  obtain ⟨o2, its, n, e2, d2, hc⟩ := id hP.items
  have l1 : pat < s.heap.objs.size := Heap.lt_size e
  have l2 : c < s.heap.objs.size := Heap.lt_size e2
  refine wpAny_pure ⟨plainId_quiet plain_loop _, sub_loop hf hx hr (Nat.ne_of_lt l1) (Nat.ne_of_lt l2) (x.cps.size + 1) 0 0 [] _ (by omega) (Nat.zero_le _) ?_ ?_ (Nat.le_refl _) (fun _ h => absurd h (by simp)) fun h' tk t' hS => ?_⟩
  · exact ⟨⟨o, p0, p1, p3, p4, Heap.get?_push_of_some _ e, d⟩, ⟨o2, its, n, Heap.get?_push_of_some _ e2, d2, hc⟩⟩
  · exact ⟨_, Heap.get?_push_size _ rfl, rfl, _, rfl⟩
  · exact hq h' tk t' hS
theorem fr_other {h₀ h h' : Heap} {L P : Addr} {m : Str → Option Value} (F : Fr h₀ L h m) (hP : P = h.objs.size) {o : Obj} (hs : Heap.SameBut P (h.push o) h') : Fr h₀ L h' m := by
  subst hP
  have F' := F.push o
  obtain ⟨oL, a1, a2, hL, a3⟩ := F'.ns
  obtain ⟨oL', _, _, hL', _⟩ := F.ns
  refine ⟨⟨oL, a1, a2, (hs.2 _ (Nat.ne_of_lt (Heap.lt_size hL'))).trans hL, a3⟩, fun b o' e => (hs.2 _ (Nat.ne_of_lt (Heap.lt_size (F.keep b o' e)))).trans (F'.keep b o' e), F.above⟩
theorem news_other {h₀ h h' : Heap} {L P : Addr} {news : List (Addr × Obj)} (N : News h₀ L h news) (hP : P = h.objs.size) {o : Obj} (hs : Heap.SameBut P (h.push o) h') : News h₀ L h' news := by
  subst hP
  intro p hp
  obtain ⟨e, n1, n2⟩ := N p hp
  exact ⟨(hs.2 _ (Nat.ne_of_lt (Heap.lt_size e))).trans (Heap.get?_push_of_some _ e), n1, n2⟩
theorem call_sub {h₀ : Heap} {L : Addr} {m : Str → Option Value} {news : List (Addr × Obj)} {pat c : Addr} {code : Array Nat} {x r : Str} {t tr : Tok} {fnd : Nat → Option (Nat × Nat)}
    (hf : Finds code x.cps fnd) (hx : x.cps.size ≤ 2000) (hr : r.length ≤ 2000) (h92 : r.cps.contains 92 = false)
    (hT : s.TypeIs (.ref pat) "re.Pattern") (hP : PatAt s.heap pat c code) (F : Fr h₀ L s.heap m) (N : News h₀ L s.heap news) {Q : Value → Shared → Prop}
    (hq : ∀ h' tk t', Fr h₀ L h' m → News h₀ L h' news → Q (.str (subOf fnd x r) t') { s with heap := h', toks := tk }) :
    wpAny (model prog w) A (call (.builtin "re.Pattern.sub") [.ref pat, .str r tr, .str x t]) Q E s :=
  wp_sub hf hx hr h92 hT hP fun h' tk t' hS => hq h' tk t' (fr_other F rfl hS) (news_other N rfl hS)
end
/-- the two patterns find what search1 and search2 say -/
noncomputable def fnd1 (x : Str) (d : Nat) : Option (Nat × Nat) := (dot1 x.cps (x.cps.size - d + 1) d).map fun q => (q, q + 1)
noncomputable def fnd2 (x : Str) (d : Nat) : Option (Nat × Nat) := (nl2 x.cps (x.cps.size + 1 - d) d).map fun p => (p, end2 x.cps p)
theorem dot1_lt {text : Array Nat} : ∀ {fuel s p : Nat}, dot1 text fuel s = some p → s ≤ p ∧ isDot text p = true
  | 0, _, _, h => by cases h
  | fuel + 1, s, p, h => by
    unfold dot1 at h
    cases hb : isDot text s with
    | true => rw [hb, if_pos rfl] at h; cases h; exact ⟨Nat.le_refl _, hb⟩
    | false =>
      rw [hb, if_neg Bool.false_ne_true] at h
      have := dot1_lt h
      exact ⟨by omega, this.2⟩
theorem isDot_lt {text : Array Nat} {p : Nat} (h : isDot text p = true) : p < text.size := by
  unfold isDot at h
  simp only [Bool.and_eq_true, decide_eq_true_eq] at h
  exact h.2.1
theorem end2_lt {text : Array Nat} {p : Nat} (h : p < text.size) : p < end2 text p ∧ end2 text p ≤ text.size := by
  by_cases hh : text.getD p 0 = 13 ∧ p + 1 < text.size ∧ text.getD (p + 1) 0 = 10
  · have : end2 text p = p + 2 := if_pos hh
    omega
  · have : end2 text p = p + 1 := if_neg hh
    omega
theorem finds1 (x : Str) (hx : x.cps.size ≤ 2000) : Finds code1 x.cps (fnd1 x) := by
  intro d hd
  obtain ⟨k, m', hk, g, h⟩ := search1 (text := x.cps) d
  refine ⟨k, m', by omega, g, ?_⟩
  unfold fnd1
  cases hq : dot1 x.cps (x.cps.size - d + 1) d with
  | none => rw [hq] at h; exact h
  | some q =>
    rw [hq] at h
    obtain ⟨h1, h2, h3, _⟩ := h
    have hb : d ≤ q ∧ q < x.cps.size := ⟨(dot1_lt hq).1, isDot_lt (dot1_lt hq).2⟩
    exact ⟨h1, h2, h3, hb.1, Nat.lt_succ_self _, hb.2⟩
theorem finds2 (x : Str) : Finds code2 x.cps (fnd2 x) := by
  intro d hd
  obtain ⟨k, m', hk, g, h⟩ := search2 (text := x.cps) d
  refine ⟨k, m', by omega, g, ?_⟩
  unfold fnd2
  cases hq : nl2 x.cps (x.cps.size + 1 - d) d with
  | none => rw [hq] at h; exact h
  | some p =>
    rw [hq] at h
    obtain ⟨h1, h2, h3, _⟩ := h
    have hb := nl2_lt hq
    exact ⟨h1, h2, h3, hb.1, (end2_lt hb.2.1).1, (end2_lt hb.2.1).2⟩
end Mine
end
section
-- ReSub3
example : True := by
  w_top off
  trivial
open PySem PySem.W PyProof.Rows PySem.Spec PySem.Builtin PySem.Builtin.Re
namespace Mine
noncomputable def quoteOf (x : Str) : Str := subOf (fnd1 (subOf (fnd2 x) x (Str.ofString "\r\n"))) (subOf (fnd2 x) x (Str.ofString "\r\n")) (Str.ofString "..")
section
variable {prog : Program} {w : World} {A : Around} {E : Value → Shared → Prop} {s : Shared} {h₀ : Heap} {L : Addr} {m : Str → Option Value} {news : List (Addr × Obj)}
theorem pat_method {K : Frag} (F : Fr h₀ L s.heap m) (X : K.In h₀) {pat : Addr} {o : Obj} {pl : Sem Bool} {Q : Value × List Value → Shared → Prop} (e : K.lookup pat = some o) (hc : o.cls = .type "re.Pattern") (hd : o.dict = none)
    (h : Q (.builtin "re.Pattern.sub", [.ref pat]) s) : wpAny (model prog w) A (getMethod (.ref pat) (Str.ofString "sub") pl) Q E s :=
  have ho := F.keep _ _ (X _ _ e)
  getMethod_builtin (T := "re.Pattern") ⟨o, ho, hc⟩ plainAttrs_pat slot_sub type_sub (fun a ha => by cases ha; exact ⟨o, ho, hd⟩) h
/-- a pattern of the fragment -/
noncomputable def patIn (K : Frag) (pat c : Addr) (code : Array Nat) : Prop :=
  (∃ o p0 p1 p3 p4, K.lookup pat = some o ∧ o.cls = .type "re.Pattern" ∧ o.data = .fields #[p0, p1, .int 0 0, p3, p4, .ref c, .int 0 0]) ∧
  ∃ o its n, K.lookup c = some o ∧ o.data = .seq its n ∧ (its.map reRawOf).map (·.toNat) = code
theorem pat_call {K : Frag} {pat c : Addr} {code : Array Nat} {x r : Str} {t tr : Tok} {fnd : Nat → Option (Nat × Nat)} (P : patIn K pat c code) (F : Fr h₀ L s.heap m) (X : K.In h₀) (N : News h₀ L s.heap news)
    (hf : Finds code x.cps fnd) (hx : x.cps.size ≤ 2000) (hr : r.length ≤ 2000) (h92 : r.cps.contains 92 = false) {Q : Value → Shared → Prop}
    (hq : ∀ h' tk t', Fr h₀ L h' m → News h₀ L h' news → Q (.str (subOf fnd x r) t') { s with heap := h', toks := tk }) :
    wpAny (model prog w) A (call (.builtin "re.Pattern.sub") [.ref pat, .str r tr, .str x t]) Q E s := by
  obtain ⟨⟨o, p0, p1, p3, p4, e, hc, d⟩, o2, its, n, e2, d2, hcode⟩ := P
  exact call_sub hf hx hr h92 ⟨_, F.keep _ _ (X _ _ e), hc⟩ ⟨⟨o, p0, p1, p3, p4, F.keep _ _ (X _ _ e), d⟩, ⟨o2, its, n, F.keep _ _ (X _ _ e2), d2, hcode⟩⟩ F N hq
end

theorem join_empty : ∀ l : List Str, (Txt.join (Str.ofString "") l).cps.toList = l.flatMap fun y => y.cps.toList := by
  intro l
  show (Builtin.Str.glued (Str.ofString "") l).cps.toList = _
  rw [StrLaws.glued_eq_join]
  induction l with
  | nil => rfl
  | cons a l ih =>
    cases l with
    | nil => simp [Str.join]
    | cons b l =>
      have e : Str.join (Str.ofString "") (a :: b :: l) = a ++ Str.ofString "" ++ Str.join (Str.ofString "") (b :: l) := rfl
      rw [e, List.flatMap_cons, ← ih]
      show ((a.cps ++ #[]) ++ (Str.join (Str.ofString "") (b :: l)).cps).toList = _
      simp
theorem pz_a {n d l : Nat} : n - d ≤ (n - d) * (1 + l) := by rw [Nat.mul_add, Nat.mul_one]; exact Nat.le_add_right _ _
theorem pz_b {m l : Nat} (h : 1 ≤ m) : l ≤ m * (1 + l) := by
  have := Nat.mul_le_mul_right (1 + l) h
  rw [Nat.one_mul] at this
  exact Nat.le_trans (Nat.le_add_left _ _) this
theorem pz_e {a b c d : Nat} (h1 : d ≤ a) (h2 : a ≤ b) (h3 : b ≤ c) : c - d = (a - d) + (b - a) + (c - b) := by
  rw [Nat.add_comm (a - d), Nat.sub_add_sub_cancel h2 h1, Nat.add_comm, Nat.sub_add_sub_cancel h3 (Nat.le_trans h1 h2)]
theorem pz_f {a b : Nat} (h : a < b) : 1 ≤ b - a := Nat.sub_pos_of_lt h
theorem pieces_size {code : Array Nat} {x r : Str} {fnd : Nat → Option (Nat × Nat)} (hf : Finds code x.cps fnd) : ∀ (f d : Nat), d ≤ x.cps.size → ((subPieces fnd x r f d).map (·.length)).sum ≤ (x.cps.size - d) * (1 + r.length)
  | 0, d, _ => Nat.zero_le _
  | f + 1, d, hd => by
    unfold subPieces
    obtain ⟨k, m', hk, g, hm⟩ := hf d hd
    have hl : ∀ a b, (⟨x.cps.extract a b⟩ : Str).length = min b x.cps.size - a := fun a b => Array.size_extract
    cases hfd : fnd d with
    | none =>
      dsimp only
      split
      · rw [List.map_cons, List.sum_cons, hl, Nat.min_self]
        exact pz_a
      · exact Nat.zero_le _
    | some pq =>
      obtain ⟨p, q⟩ := pq
      rw [hfd] at hm
      obtain ⟨_, _, _, h1, h2, h3⟩ := hm
      have ih := pieces_size hf f q h3 (r := r)
      rw [pz_e h1 (Nat.le_of_lt h2) h3, Nat.add_mul, Nat.add_mul]
      dsimp only
      split
      · rw [List.cons_append, List.nil_append, List.map_cons, List.sum_cons, List.map_cons, List.sum_cons, hl, Nat.add_assoc]
        exact Nat.add_le_add (Nat.le_trans (Nat.sub_le_sub_right (Nat.min_le_left _ _) _) pz_a) (Nat.add_le_add (pz_b (pz_f h2)) ih)
      · rw [List.nil_append, List.map_cons, List.sum_cons, Nat.add_assoc]
        exact Nat.le_trans (Nat.add_le_add (pz_b (pz_f h2)) ih) (Nat.le_add_left _ _)
theorem sub_size {code : Array Nat} {x r : Str} {fnd : Nat → Option (Nat × Nat)} (hf : Finds code x.cps fnd) : (subOf fnd x r).cps.size ≤ x.cps.size * (1 + r.length) := by
  have h := pieces_size (r := r) hf (x.cps.size + 1) 0 (Nat.zero_le _)
  unfold subOf
  rw [← Array.length_toList, join_empty, List.length_flatMap]
  exact h
end Mine
end
section
-- CompStr
example : True := by
  w_top off
  trivial
open PySem PySem.W PyProof.Rows PySem.Spec PySem.Calls
namespace Mine
section
variable {prog : Program} {w : World} {A : Around} {E : Value → Shared → Prop} {s : Shared} {h₀ : Heap} {L : Addr} {m : Str → Option Value} {env : Env}
/-- the source is a text -/
noncomputable def CompSrcS (prog : Program) (w : World) (A : Around) (h₀ : Heap) (L : Addr) (m : Str → Option Value) (env : Env) (elt : PySem.Expr) (x : Str) (scope : Scope) (cl : List (Str × Addr)) (Fin : Shared → List Value → List (Addr × Obj) → Prop) (xv : Value) (s₁ : Shared) : Prop :=
  ∃ tx t news, xv = .str tx t ∧ A.handled = none ∧ Fr h₀ L s₁.heap m ∧ News h₀ L s₁.heap news ∧ tx.cps.size ≤ sizeLine ∧
    ∀ g : Heap, LCg.CompRest prog w A h₀ L m env elt x scope cl { s₁ with heap := g } (fun _ => True) (SignAt tx) (Fin { s₁ with heap := g }) tx.cps.size 0 [] news
theorem CompSrcS.intro {elt : PySem.Expr} {x : Str} {scope : Scope} {cl : List (Str × Addr)} {Fin : Shared → List Value → List (Addr × Obj) → Prop} {tx : Str} {t : Tok} {news : List (Addr × Obj)} {s₁ : Shared}
    (hh : A.handled = none) (F : Fr h₀ L s₁.heap m) (N : News h₀ L s₁.heap news) (hsz : tx.cps.size ≤ sizeLine)
    (h : ∀ g, LCg.CompRest prog w A h₀ L m env elt x scope cl { s₁ with heap := g } (fun _ => True) (SignAt tx) (Fin { s₁ with heap := g }) tx.cps.size 0 [] news) :
    CompSrcS prog w A h₀ L m env elt x scope cl Fin (.str tx t) s₁ := ⟨tx, t, news, rfl, hh, F, N, hsz, h⟩
theorem str_st {nm : String} {tx : Str} {t : Tok} {I : Addr} : ∀ (i : Nat) (h h' : Heap) (o : Obj) (nw : List (Addr × Obj)), h.IsStrIter I nm tx t i → h.get? I = some o → h'.get? I = some o →
    (∀ b o, h₀.get? b = some o → h'.get? b = some o) → News h₀ L h' nw → True → h'.IsStrIter I nm tx t i := by
  intro i h h' o nw st e e' _ _ _
  obtain ⟨o', q, r⟩ := st
  rw [e] at q
  cases q
  exact ⟨o, e', r⟩
theorem str_ListComp {elt iter : PySem.Expr} {x : Str} {px : Pos} {scope : Scope} {cl : List (Str × Addr)} {pos : Pos} {Q : Value → Shared → Prop} (F₀ : Fr h₀ L s.heap m)
    (hclos : closureFor scope env = pure cl) (hcell : ∀ y ∈ scope.names, y.2 ≠ .cell) (hkind : scope.kind = .function)
    (hnames : ∀ y ∈ scope.names, y.2 = .local → scope.names.lookup y.1 = some .local) (hx : scope.names.lookup x = some .local)
    (h : wpAny (model prog w) A (eval iter env) (CompSrcS prog w A h₀ L m env elt x scope cl (fun s₂ => LCg.FinE h₀ L m s₂ Q)) E s)
    (hs : ∀ x, foldedSetIterable iter env x = pure x := by intro _; rfl) :
    wpAny (model prog w) A (eval (.ListComp elt [⟨.Name x px, iter, [], 0⟩] scope pos) env) Q E s := by
  rw [eval_ListComp]
  refine wpAny_comprehension_free (use := none) rfl hs hclos hkind hnames (wpAny_mono h (fun xv s₁ h₁ => ?_) fun _ _ e => e)
  obtain ⟨tx, t, news, rfl, hh, F, N, hsz, R⟩ := h₁
  cases ha : tx.cps.all (· < 128)
  · refine wpAny_pyIter_wide ha ?_
    refine LCg.block_U (Walks.strWide hh _ tx t) hsz (fun i h st => by obtain ⟨o, e, _⟩ := st; exact ⟨o, e⟩) str_st hcell hkind hx ⟨_, Heap.get?_push_size _ rfl, rfl, rfl⟩ (fun b hb => ?_)
      (F.keeps fun _ _ e => Heap.get?_push_of_some _ e) (N.grown fun _ _ e => Heap.get?_push_of_some _ e) (Nat.ne_of_lt F.ns.lt) (next_is_new F) (fun p hp => Nat.ne_of_lt (Heap.lt_size (N p hp).1)) trivial (R _) ?_
    · rw [List.mem_singleton.mp hb]
      show s₁.heap.objs.size < (s₁.heap.push _).objs.size
      rw [Heap.size_push]; exact Nat.lt_succ_self _
    · intro D C h tk m' ys news' F' N' o1 hn hC₀ hD₀ hCL hDL hCD offC fin
      refine ⟨m', hn, fun h'' hs'' => fin D h'' tk (F'.change hs'' hCL hC₀) (fun p hp => ?_) o1⟩
      refine ⟨hs''.extBut _ _ ?_ (N' p hp).1, (N' p hp).2⟩
      rcases List.mem_cons.mp hp with rfl | hp
      · exact Ne.symm hCD
      · exact offC p hp
  · refine wpAny_pyIter_ascii ha ?_
    refine LCg.block_U (Walks.strAscii hh _ tx t) hsz (fun i h st => by obtain ⟨o, e, _⟩ := st; exact ⟨o, e⟩) str_st hcell hkind hx ⟨_, Heap.get?_push_size _ rfl, rfl, rfl⟩ (fun b hb => ?_)
      (F.keeps fun _ _ e => Heap.get?_push_of_some _ e) (N.grown fun _ _ e => Heap.get?_push_of_some _ e) (Nat.ne_of_lt F.ns.lt) (next_is_new F) (fun p hp => Nat.ne_of_lt (Heap.lt_size (N p hp).1)) trivial (R _) ?_
    · rw [List.mem_singleton.mp hb]
      show s₁.heap.objs.size < (s₁.heap.push _).objs.size
      rw [Heap.size_push]; exact Nat.lt_succ_self _
    · intro D C h tk m' ys news' F' N' o1 hn hC₀ hD₀ hCL hDL hCD offC fin
      refine ⟨m', hn, fun h'' hs'' => fin D h'' tk (F'.change hs'' hCL hC₀) (fun p hp => ?_) o1⟩
      refine ⟨hs''.extBut _ _ ?_ (N' p hp).1, (N' p hp).2⟩
      rcases List.mem_cons.mp hp with rfl | hp
      · exact Ne.symm hCD
      · exact offC p hp
end
end Mine
end
section
-- CompIf
example : True := by
  w_top off
  trivial
open PySem PySem.W PyProof.Rows PySem.Spec PySem.Calls
namespace Mine
section
variable {prog : Program} {w : World} {A : Around} {E : Value → Shared → Prop} {s : Shared} {h₀ : Heap} {L : Addr} {m : Str → Option Value} {env : Env}
/-- a test whose answer is b, and what follows when it holds -/
noncomputable def TestEnd (h₀ : Heap) (L : Addr) (m : Str → Option Value) (s : Shared) (led : List (Addr × Obj)) (b : Bool) (T : Shared → Prop) (ok : Bool) (s' : Shared) : Prop :=
  ok = b ∧ (b = true → T s') ∧ ∃ h' tk', s' = { s with heap := h', toks := tk' } ∧ Fr h₀ L h' m ∧ News h₀ L h' led
theorem ints_snoc {ys : List Value} {zs : List Int} (h : IntsAre ys zs) (k : Int) (t : Tok) : IntsAre (ys ++ [.int k t]) (zs ++ [k]) := by
  induction ys generalizing zs with
  | nil => cases zs with
    | nil => exact .cons k t .nil
    | cons z zs => have := h.length; simp at this
  | cons y ys ih => cases zs with
    | nil => have := h.length; simp at this
    | cons z zs =>
      obtain ⟨t', u', e', h'⟩ := h.cons_inv
      cases e'
      exact .cons z t' (ih h')
/-- a list comprehension over ints with a test, its turns alike -/
theorem compRestT_ints {ct elt : PySem.Expr} {x : Str} {scope : Scope} {cl : List (Str × Addr)} {S : List (Addr × Obj) → Prop} {P : Nat → Value → Prop} {Fin : List Value → List (Addr × Obj) → Prop} {news : List (Addr × Obj)} (ks : List Int) (b : Int → Bool) (hS : S news)
    (hP : ∀ i v, P i v → ∃ k t, ks[i]? = some k ∧ v = Value.int k t)
    (step : ∀ k t I oI C oC D ys m₂ h tk (E' : Value → Shared → Prop), k ∈ ks → LCg.NsObj oC m₂ → m₂ x = some (.int k t) → Fr h₀ L h m → News h₀ L h ((I, oI) :: (C, oC) :: (D, LCg.lst ys) :: news) →
      wpAny (model prog w) A (isTrue ct (compEnvC scope cl C env) (eval ct (compEnvC scope cl C env))) (TestEnd h₀ L m s ((I, oI) :: (C, oC) :: (D, LCg.lst ys) :: news) (b k) (fun s' =>
        wpAny (model prog w) A (eval elt (compEnvC scope cl C env)) (PureEnd h₀ L m s ((I, oI) :: (C, oC) :: (D, LCg.lst ys) :: news) (fun y => ∃ t, y = Value.int k t)) E' s')) E' { s with heap := h, toks := tk })
    (fin : ∀ ys : List Value, IntsAre ys (ks.filter b) → Fin ys news) : ∀ n i, i + n = ks.length → ∀ ys, IntsAre ys ((ks.take i).filter b) → LCt.CompRestT prog w A h₀ L m env ct elt x scope cl s S P Fin n i ys news
  | 0, i, hi, ys, hy => fin ys (by rw [List.take_of_length_le (by omega)] at hy; exact hy)
  | n + 1, i, hi, ys, hy => by
    refine LCt.CompRestT.succ fun v I oI C oC D m₂ h tk E' hv hC hx F N off ne => ?_
    obtain ⟨k, t, hk, rfl⟩ := hP i v hv
    have hkm : k ∈ ks := List.mem_of_getElem? hk
    have htake : ks.take (i + 1) = ks.take i ++ [k] := by rw [List.take_succ, hk]; rfl
    refine wpAny_mono (step k t I oI C oC D ys m₂ h tk E' hkm hC hx F N) (fun ok s' h' => ?_) fun _ _ e => e
    obtain ⟨rfl, hT, hrest⟩ := h'
    cases hb : b k with
    | true =>
      rw [if_pos rfl]
      refine wpAny_mono (hT hb) (fun y s'' h'' => ?_) fun _ _ e => e
      obtain ⟨h2, tk2, rfl, F2, N2, t2, rfl⟩ := h''
      refine ⟨h2, tk2, news, rfl, F2, N2, off, hS, compRestT_ints ks b hS hP step fin n (i + 1) (by omega) _ ?_⟩
      rw [htake, List.filter_append]
      have : [k].filter b = [k] := by simp [hb]
      rw [this]
      exact ints_snoc hy k t2
    | false =>
      rw [if_neg Bool.false_ne_true]
      obtain ⟨h2, tk2, rfl, F2, N2⟩ := hrest
      refine ⟨h2, tk2, news, rfl, F2, N2, off, hS, compRestT_ints ks b hS hP step fin n (i + 1) (by omega) _ ?_⟩
      rw [htake, List.filter_append]
      have : [k].filter b = [] := by simp [hb]
      rw [this, List.append_nil]
      exact hy
end
end Mine
end
section
open PySem PySem.W PyProof.Rows PySem.Spec PySem.Calls Mine
open PySem PySem.W
local macro_rules | `(tactic| walk_at "PICK") => `(tactic| first | with_reducible assumption | exact And.left (by with_reducible assumption) | exact And.right (by with_reducible assumption) | exact And.left (And.right (by with_reducible assumption)) | exact And.right (And.right (by with_reducible assumption)) | exact And.left (And.right (And.right (by with_reducible assumption))) | exact And.right (And.right (And.right (by with_reducible assumption))) | exact And.left (And.right (And.right (And.right (by with_reducible assumption)))) | exact And.right (And.right (And.right (And.right (by with_reducible assumption)))) | exact And.left (And.right (And.right (And.right (And.right (by with_reducible assumption))))) | exact And.right (And.right (And.right (And.right (And.right (by with_reducible assumption))))) | exact And.left (And.right (And.right (And.right (And.right (And.right (by with_reducible assumption)))))) | exact And.right (And.right (And.right (And.right (And.right (And.right (by with_reducible assumption)))))) | exact And.left (And.right (And.right (And.right (And.right (And.right (And.right (by with_reducible assumption))))))) | exact And.right (And.right (And.right (And.right (And.right (And.right (And.right (by with_reducible assumption))))))) | exact And.left (And.right (And.right (And.right (And.right (And.right (And.right (And.right (by with_reducible assumption)))))))) | exact And.right (And.right (And.right (And.right (And.right (And.right (And.right (And.right (by with_reducible assumption)))))))) | exact And.left (And.right (And.right (And.right (And.right (And.right (And.right (And.right (And.right (by with_reducible assumption))))))))) | exact And.right (And.right (And.right (And.right (And.right (And.right (And.right (And.right (And.right (by with_reducible assumption))))))))) | exact And.left (And.right (And.right (And.right (And.right (And.right (And.right (And.right (And.right (And.right (by with_reducible assumption)))))))))) | exact And.right (And.right (And.right (And.right (And.right (And.right (And.right (And.right (And.right (And.right (by with_reducible assumption)))))))))) | exact And.left (And.right (And.right (And.right (And.right (And.right (And.right (And.right (And.right (And.right (And.right (by with_reducible assumption))))))))))) | exact And.right (And.right (And.right (And.right (And.right (And.right (And.right (And.right (And.right (And.right (And.right (by with_reducible assumption))))))))))) | exact And.left (And.right (And.right (And.right (And.right (And.right (And.right (And.right (And.right (And.right (And.right (And.right (by with_reducible assumption)))))))))))) | exact And.right (And.right (And.right (And.right (And.right (And.right (And.right (And.right (And.right (And.right (And.right (And.right (by with_reducible assumption)))))))))))) | exact And.left (And.right (And.right (And.right (And.right (And.right (And.right (And.right (And.right (And.right (And.right (And.right (And.right (by with_reducible assumption))))))))))))) | exact And.right (And.right (And.right (And.right (And.right (And.right (And.right (And.right (And.right (And.right (And.right (And.right (And.right (by with_reducible assumption))))))))))))) | exact And.left (And.right (And.right (And.right (And.right (And.right (And.right (And.right (And.right (And.right (And.right (And.right (And.right (And.right (by with_reducible assumption)))))))))))))) | exact And.right (And.right (And.right (And.right (And.right (And.right (And.right (And.right (And.right (And.right (And.right (And.right (And.right (And.right (by with_reducible assumption)))))))))))))) | exact And.left (And.right (And.right (And.right (And.right (And.right (And.right (And.right (And.right (And.right (And.right (And.right (And.right (And.right (And.right (by with_reducible assumption))))))))))))))) | exact And.right (And.right (And.right (And.right (And.right (And.right (And.right (And.right (And.right (And.right (And.right (And.right (And.right (And.right (And.right (by with_reducible assumption))))))))))))))) | exact And.left (And.right (And.right (And.right (And.right (And.right (And.right (And.right (And.right (And.right (And.right (And.right (And.right (And.right (And.right (And.right (by with_reducible assumption)))))))))))))))) | exact And.right (And.right (And.right (And.right (And.right (And.right (And.right (And.right (And.right (And.right (And.right (And.right (And.right (And.right (And.right (And.right (by with_reducible assumption)))))))))))))))) | exact And.left (And.right (And.right (And.right (And.right (And.right (And.right (And.right (And.right (And.right (And.right (And.right (And.right (And.right (And.right (And.right (And.right (by with_reducible assumption))))))))))))))))) | exact And.right (And.right (And.right (And.right (And.right (And.right (And.right (And.right (And.right (And.right (And.right (And.right (And.right (And.right (And.right (And.right (And.right (by with_reducible assumption))))))))))))))))) | exact And.left (And.right (And.right (And.right (And.right (And.right (And.right (And.right (And.right (And.right (And.right (And.right (And.right (And.right (And.right (And.right (And.right (And.right (by with_reducible assumption)))))))))))))))))) | exact And.right (And.right (And.right (And.right (And.right (And.right (And.right (And.right (And.right (And.right (And.right (And.right (And.right (And.right (And.right (And.right (And.right (And.right (by with_reducible assumption)))))))))))))))))) | exact And.left (And.right (And.right (And.right (And.right (And.right (And.right (And.right (And.right (And.right (And.right (And.right (And.right (And.right (And.right (And.right (And.right (And.right (And.right (by with_reducible assumption))))))))))))))))))) | exact And.right (And.right (And.right (And.right (And.right (And.right (And.right (And.right (And.right (And.right (And.right (And.right (And.right (And.right (And.right (And.right (And.right (And.right (And.right (by with_reducible assumption))))))))))))))))))) | exact And.left (And.right (And.right (And.right (And.right (And.right (And.right (And.right (And.right (And.right (And.right (And.right (And.right (And.right (And.right (And.right (And.right (And.right (And.right (And.right (by with_reducible assumption)))))))))))))))))))) | exact And.right (And.right (And.right (And.right (And.right (And.right (And.right (And.right (And.right (And.right (And.right (And.right (And.right (And.right (And.right (And.right (And.right (And.right (And.right (And.right (by with_reducible assumption)))))))))))))))))))) | exact And.left (And.right (And.right (And.right (And.right (And.right (And.right (And.right (And.right (And.right (And.right (And.right (And.right (And.right (And.right (And.right (And.right (And.right (And.right (And.right (And.right (by with_reducible assumption))))))))))))))))))))))
local macro_rules | `(tactic| k_ne) => `(tactic| ((refine neN ?_); (try dsimp only); (first | (refine Nat.ne_of_lt ?_; walk_at "PICK") | (refine Nat.ne_of_gt ?_; walk_at "PICK") | (refine Nat.ne_of_lt ?_; ((repeat (first | exact Nat.lt_succ_self _ | refine Nat.lt_succ_of_lt ?_)); done)) | (refine Nat.ne_of_gt ?_; ((repeat (first | exact Nat.lt_succ_self _ | refine Nat.lt_succ_of_lt ?_)); done)) | omega)))
section
-- Cells
example : True := by
  w_top off
  trivial
open PySem PySem.W PyProof.Rows PySem.Spec
namespace Mine
local macro_rules | `(tactic| walk_at "exec For Tuple Call cons nil") => `(tactic| (k_here; (rename Fr _ _ _ _ => lF'); (with_unfolding_all refine' For_turns lF' ?_; k_whole)))
section
variable {prog : Program} {w : World} {A : Around} {E : Value → Shared → Prop} {s : Shared} {env : Env} {h₀ : Heap} {target : Expr} {body : List Stmt} {Q : Flow → Shared → Prop}
theorem unrPost_mono {L : Addr} {s₁ : Shared} {its : List (Addr × Obj)} {P P' : (Str → Option Value) → List (Addr × Obj) → Prop} (h : ∀ m n, P m n → P' m n) :
    ∀ f s₂, UnrPostW h₀ L s₁ its P Q f s₂ → UnrPostW h₀ L s₁ its P' Q f s₂ := by
  intro f s₂ H
  cases f with
  | ret v => exact H
  | brk => exact H
  | next => exact let ⟨h', tk, m', n', e, F, N, o, r⟩ := H; ⟨h', tk, m', n', e, F, N, o, h _ _ r⟩
  | cont => exact let ⟨h', tk, m', n', e, F, N, o, r⟩ := H; ⟨h', tk, m', n', e, F, N, o, h _ _ r⟩
theorem allObj_mono : ∀ {ws : List (Addr × String)} {k k' : List (Addr × Obj) → Prop}, (∀ its, k its → k' its) → AllObj ws k → AllObj ws k'
  | [], _, _, h, x => h _ x
  | _ :: _, _, _, h, x => fun o ho => allObj_mono (fun its => h _) (x o ho)
theorem items_ind {ws : List (Addr × String)} {keep : List (Addr × Obj)} (R : Nat → (Str → Option Value) → List (Addr × Obj) → Prop) (n : Nat)
    (done : ∀ m news, R n m news → ∀ h tk, Fr h₀ env.locals h m → News h₀ env.locals h news → Q .next { s with heap := h, toks := tk }) :
    ∀ (vs : List Value) (i : Nat), i + vs.length = n →
    (∀ j v m news, i ≤ j → vs[j - i]? = some v → R j m news → ∀ T t h tk, IsTup h T #[.int (j : Int) t, v] → Fr h₀ env.locals h m → AllObj ws (fun its => News h₀ env.locals h (its ++ news) →
      wpAny (model prog w) A (assign target env (.ref T)) (fun _ s₂ => wpAny (model prog w) A (execs body env) (UnrPostW h₀ env.locals { s with heap := h, toks := tk } its (fun m' n' => SubL keep n' ∧ R (j + 1) m' n') Q) E s₂) E { s with heap := h, toks := tk })) →
    ∀ m news, R i m news → ItemsRest prog w A E h₀ env target body Q s ws keep (enumItems i vs) m news
  | [], i, hi, _, m, news, hR => by
    have e : i = n := by simpa using hi
    subst e
    exact done m news hR
  | v :: r, i, hi, turn, m, news, hR => by
    refine ItemsRest.pair fun T t h tk hT F => ?_
    refine allObj_mono (fun its hk N => ?_) (turn i v m news (Nat.le_refl _) (by simp) hR T t h tk hT F)
    refine wpAny_mono (hk N) (fun _ s₂ h₂ => wpAny_mono h₂ (unrPost_mono fun m' n' h' => ⟨h'.1, ?_⟩) fun _ _ e => e) fun _ _ e => e
    refine items_ind R n done r (i + 1) (by simp at hi; omega) (fun j v' m news hj hv hR => turn j v' m news (by omega) ?_ hR) m' n' h'.2
    rw [show j - i = (j - (i + 1)) + 1 from by omega]
    simpa using hv
end
local macro_rules | `(tactic| walk_at "call type:enumerate") => `(tactic| (k_here; (with_reducible show wpAny _ _ (call (Value.type _) [Value.ref _]) (fun xv s₁ => wpAny _ _ (pyIter xv) (fun it s₂ => TurnsAt _ _ _ _ _ _ _ _ _ it s₂) _ s₁) _ _); (rename Fr _ _ _ _ => lF'); (rename News _ _ _ _ => lN'); (refine ktu_enum (by rfl) lF' lN' (List.mem_cons_self ..) (by rfl) (by rfl) rfl ?_); clear lF' lN'; intro i' l1; (try k_lt l1)))
local macro_rules | `(tactic| k_all) => `(tactic| assumption)
set_option maxRecDepth 100000 in
set_option maxHeartbeats 8000000 in
theorem cells_ok (w : World) (mean : ExcName → Option Value) (mg mb : Str → Option Value) :
    ∀ (dp un : Nat) (gd : Option (List Code)) (cn : Str) (cs : Scope) (a : Addr) (ccd : Value) (cl : List (Str × Addr)) (outer : List Env) (A₀ : Around) (base h₀ : Heap) (L : Addr) (m : Str → Option Value) (s : Shared) (Q E : Value → Shared → Prop)
    (l c : Addr) (vs us : List Value) (ns xs : List Int) (n : Nat) (rest : List (Addr × Obj))
    (B : Below A₀ base outer h₀) (F : Fr h₀ L s.heap m) (X : (hd.heap_1 w.params).In h₀) (N : News h₀ L s.heap ((c, listOf us.toArray n) :: rest))
    (T : Top hd.view_1 (looseW hd.view_1 loose3) mean mg mb h₀) (hk : cs.kind = .function)
    (hl : base.IsList l vs.toArray) (hi : IntsAre vs ns) (hn : ns.length ≤ 63) (hu : IntsAre us xs) (hx : xs.length = 13) (hb : ∀ x ∈ xs, 0 ≤ x ∧ x ≤ 355) (hr : ∀ p ∈ rest, p.1 ≠ c)
    (hd1 : dp + 1 < recursionLimit) (hu1 : un + 8 < cLine)
    (hret : ∀ (us' : List Value) (xs' : List Int) (h' : Heap) (tk' : Nat), IntsAre us' xs' → xs'.length = 13 → (∀ x ∈ xs', 0 ≤ x ∧ x ≤ 10000000000) → Fr h₀ L h' m → News h₀ L h' ((c, listOf us'.toArray n) :: rest) → Q (.ref c) { s with heap := h', toks := tk' }),
    wpAny (model PySem.Challenge.rw_st0008_01.row.prog w) (ktrTop dp un gd cn cs L a ccd cl outer) (call (.ref 72) [.ref l, .ref c]) Q E s := by
  k_fill
  intro dp un gd cn cs a ccd cl outer A₀ base h₀ L m s Q E l c vs us ns xs n rest B F X N T hk hl hi hn hu hx hb hr hd1 hu1 hret
  refine wpAny_call ?_
  k_dflt cell_enter
  k_steps
  rename_i g1 L1 h1 FG B1 X1 T1 D1 ws1 h2 hI1 hC1 hL1 hlt I1 hlt1
  refine items_ind (fun i m' news' => ∃ (us' : List Value) (xs' : List Int), IntsAre us' xs' ∧ xs'.length = 13 ∧ (∀ x ∈ xs', 0 ≤ x ∧ x ≤ 355 + 100000000 * (i : Int)) ∧ news' = (D1, listOf ws1.toArray 0) :: (c, listOf us'.toArray n) :: rest ∧ m' (Str.ofString "cells") = some (.ref c)) ws1.length ?_ ws1 0 (Nat.zero_add _) ?_ _ _ ⟨us, xs, hu, hx, fun x h => ⟨(hb x h).1, by have := (hb x h).2; omega⟩, rfl, rfl⟩
  · rintro m2 n2 ⟨us2, xs2, hu2, hx2, hb2, rfl, hm2⟩ h3 tk3 F3 N3
    have em : m2 = fun y => if y = Str.ofString "cells" then some (.ref c) else m2 y := by
      funext y
      by_cases h : y = Str.ofString "cells"
      · subst h; simp [hm2]
      · simp [h]
    rw [em] at F3
    clear em
    k_steps
    rename_i kF kN _ _
    have hlen : (ws1.length : Int) ≤ 63 := by have := hI1.length; omega
    exact hret us2 xs2 _ _ hu2 hx2 (fun x h => ⟨(hb2 x h).1, by have := (hb2 x h).2; omega⟩) kF (fun p hp => kN p (.tail _ hp))
  · rintro j v m2 n2 hj0 hj ⟨us2, xs2, hu2, hx2, hb2, rfl, hm2⟩ T3 t3 h3 tk3 hT3 F3
    obtain ⟨k3, tk4, hv⟩ : ∃ k tk, v = .int k tk := by
      obtain ⟨n4, hn4⟩ : ∃ n4, (List.take 63 ns)[j - 0]? = some n4 := by
        have h1 : j - 0 < ws1.length := by
          rcases Nat.lt_or_ge (j - 0) ws1.length with h | h
          · exact h
          · rw [List.getElem?_eq_none h] at hj; cases hj
        exact ⟨_, List.getElem?_eq_getElem (by rw [← hI1.length]; exact h1)⟩
      obtain ⟨t4, ht4⟩ := hI1.get _ _ hn4
      exact ⟨n4, t4, Option.some.inj (hj.symm.trans ht4)⟩
    subst hv
    have em : m2 = fun y => if y = Str.ofString "cells" then some (.ref c) else m2 y := by
      funext y
      by_cases h : y = Str.ofString "cells"
      · subst h; simp [hm2]
      · simp [h]
    rw [em] at F3
    clear em
    ktu_objs
    k_steps
    rename_i o3 hc3 o4 hc4 h4 F4 N4 h5 h6 tk5 t5 h7 F7 N7 hi7 hl7 hs7
    have hlen : (ws1.length : Int) ≤ 63 := by have := hI1.length; omega
    refine ⟨_, _, _, _, rfl, F7, N7, ?_, ⟨List.mem_cons_self .., trivial⟩, _, _, hi7, hl7.trans hx2, ?_, rfl, rfl⟩
    · intro p hp q hq
      have hq' : q.1 = I1 + 1 ∨ q.1 = I1 := by
        rcases List.mem_cons.mp hq with rfl | hq
        · exact .inl rfl
        · exact .inr (by rw [List.mem_singleton.mp hq])
      have hp' : p.1 < I1 := by
        rcases List.mem_cons.mp hp with rfl | hp
        · exact hlt1.1
        · rcases List.mem_cons.mp hp with rfl | hp
          · exact hlt1.2.1
          · exact ktn_ltOf hlt1.2.2 p hp
      rcases hq' with e | e <;> rw [e]
      · exact Nat.ne_of_lt (Nat.lt_succ_of_lt hp')
      · exact Nat.ne_of_lt hp'
    · intro x hxm
      have h10 : ((10 : Int) ^ Int.toNat 8) = 100000000 := by decide
      rw [h10] at hxm
      have hm1 : 0 ≤ k3.fmod 100000000 ∧ k3.fmod 100000000 < 100000000 := by
        rw [Int.fmod_eq_emod_of_nonneg _ (by decide)]
        exact ⟨Int.emod_nonneg _ (by decide), Int.emod_lt_of_pos _ (by decide)⟩
      have hg : 0 ≤ xs2.getD ((j : Int).fmod (xs2.length : Int)).toNat 0 ∧ xs2.getD ((j : Int).fmod (xs2.length : Int)).toNat 0 ≤ 355 + 100000000 * (j : Int) := by
        rw [List.getD_eq_getElem?_getD]
        cases hz : xs2[((j : Int).fmod (xs2.length : Int)).toNat]? with
        | none => simp; omega
        | some z => exact hb2 z (List.mem_of_getElem? hz)
      push_cast
      rcases List.mem_or_eq_of_mem_set hxm with hxm | rfl
      · have := hb2 x hxm; omega
      · omega
theorem list13 : ∀ {xs : List Int}, xs.length = 13 → ∃ x0 x1 x2 x3 x4 x5 x6 x7 x8 x9 x10 x11 x12 : Int, xs = [x0, x1, x2, x3, x4, x5, x6, x7, x8, x9, x10, x11, x12]
  | [x0, x1, x2, x3, x4, x5, x6, x7, x8, x9, x10, x11, x12], _ => ⟨x0, x1, x2, x3, x4, x5, x6, x7, x8, x9, x10, x11, x12, rfl⟩
theorem ints13 {us : List Value} {x0 x1 x2 x3 x4 x5 x6 x7 x8 x9 x10 x11 x12 : Int} (h : IntsAre us [x0, x1, x2, x3, x4, x5, x6, x7, x8, x9, x10, x11, x12]) : ∃ t0 t1 t2 t3 t4 t5 t6 t7 t8 t9 t10 t11 t12 : Tok, us = [.int x0 t0, .int x1 t1, .int x2 t2, .int x3 t3, .int x4 t4, .int x5 t5, .int x6 t6, .int x7 t7, .int x8 t8, .int x9 t9, .int x10 t10, .int x11 t11, .int x12 t12] := by
  obtain ⟨t0, u0, e0, h0⟩ := h.cons_inv
  obtain ⟨t1, u1, e1, h1⟩ := h0.cons_inv
  obtain ⟨t2, u2, e2, h2⟩ := h1.cons_inv
  obtain ⟨t3, u3, e3, h3⟩ := h2.cons_inv
  obtain ⟨t4, u4, e4, h4⟩ := h3.cons_inv
  obtain ⟨t5, u5, e5, h5⟩ := h4.cons_inv
  obtain ⟨t6, u6, e6, h6⟩ := h5.cons_inv
  obtain ⟨t7, u7, e7, h7⟩ := h6.cons_inv
  obtain ⟨t8, u8, e8, h8⟩ := h7.cons_inv
  obtain ⟨t9, u9, e9, h9⟩ := h8.cons_inv
  obtain ⟨t10, u10, e10, h10⟩ := h9.cons_inv
  obtain ⟨t11, u11, e11, h11⟩ := h10.cons_inv
  obtain ⟨t12, u12, e12, h12⟩ := h11.cons_inv
  have e13 := h12.nil_inv
  subst e0 e1 e2 e3 e4 e5 e6 e7 e8 e9 e10 e11 e12 e13
  exact ⟨t0, t1, t2, t3, t4, t5, t6, t7, t8, t9, t10, t11, t12, rfl⟩
set_option maxRecDepth 100000 in
theorem cells13 (w : World) (mean : ExcName → Option Value) (mg mb : Str → Option Value)
    (dp un : Nat) (gd : Option (List Code)) (cn : Str) (cs : Scope) (a : Addr) (ccd : Value) (cl : List (Str × Addr)) (outer : List Env) (A₀ : Around) (base h₀ : Heap) (L : Addr) (m : Str → Option Value) (s : Shared) (Q E : Value → Shared → Prop)
    (l c : Addr) (vs us : List Value) (ns xs : List Int) (n : Nat) (rest : List (Addr × Obj))
    (B : Below A₀ base outer h₀) (F : Fr h₀ L s.heap m) (X : (hd.heap_1 w.params).In h₀) (N : News h₀ L s.heap ((c, listOf us.toArray n) :: rest))
    (T : Top hd.view_1 (looseW hd.view_1 loose3) mean mg mb h₀) (hk : cs.kind = .function)
    (hl : base.IsList l vs.toArray) (hi : IntsAre vs ns) (hn : ns.length ≤ 63) (hu : IntsAre us xs) (hx : xs.length = 13) (hb : ∀ x ∈ xs, 0 ≤ x ∧ x ≤ 355) (hr : ∀ p ∈ rest, p.1 ≠ c)
    (hd1 : dp + 1 < recursionLimit) (hu1 : un + 8 < cLine)
    (hret : ∀ (x0 x1 x2 x3 x4 x5 x6 x7 x8 x9 x10 x11 x12 : Int) (t0 t1 t2 t3 t4 t5 t6 t7 t8 t9 t10 t11 t12 : Tok) (h' : Heap) (tk' : Nat), (0 ≤ x0 ∧ x0 ≤ 10000000000) ∧ (0 ≤ x1 ∧ x1 ≤ 10000000000) ∧ (0 ≤ x2 ∧ x2 ≤ 10000000000) ∧ (0 ≤ x3 ∧ x3 ≤ 10000000000) ∧ (0 ≤ x4 ∧ x4 ≤ 10000000000) ∧ (0 ≤ x5 ∧ x5 ≤ 10000000000) ∧ (0 ≤ x6 ∧ x6 ≤ 10000000000) ∧ (0 ≤ x7 ∧ x7 ≤ 10000000000) ∧ (0 ≤ x8 ∧ x8 ≤ 10000000000) ∧ (0 ≤ x9 ∧ x9 ≤ 10000000000) ∧ (0 ≤ x10 ∧ x10 ≤ 10000000000) ∧ (0 ≤ x11 ∧ x11 ≤ 10000000000) ∧ (0 ≤ x12 ∧ x12 ≤ 10000000000) → Fr h₀ L h' m → News h₀ L h' ((c, listOf #[.int x0 t0, .int x1 t1, .int x2 t2, .int x3 t3, .int x4 t4, .int x5 t5, .int x6 t6, .int x7 t7, .int x8 t8, .int x9 t9, .int x10 t10, .int x11 t11, .int x12 t12] n) :: rest) → Q (.ref c) { s with heap := h', toks := tk' }) :
    wpAny (model PySem.Challenge.rw_st0008_01.row.prog w) (ktrTop dp un gd cn cs L a ccd cl outer) (call (.ref 72) [.ref l, .ref c]) Q E s := by
  refine cells_ok w mean mg mb dp un gd cn cs a ccd cl outer A₀ base h₀ L m s Q E l c vs us ns xs n rest B F X N T hk hl hi hn hu hx hb hr hd1 hu1 fun us' xs' h' tk' hi' hl' hb' F' N' => ?_
  obtain ⟨x0, x1, x2, x3, x4, x5, x6, x7, x8, x9, x10, x11, x12, rfl⟩ := list13 hl'
  obtain ⟨t0, t1, t2, t3, t4, t5, t6, t7, t8, t9, t10, t11, t12, rfl⟩ := ints13 hi'
  simp only [List.forall_mem_cons, List.not_mem_nil, false_imp_iff, implies_true, and_true] at hb'
  exact hret _ _ _ _ _ _ _ _ _ _ _ _ _ _ _ _ _ _ _ _ _ _ _ _ _ _ h' tk' hb' F' N'
end Mine
end
section
-- Turn
example : True := by
  w_top off
  trivial
open PySem PySem.W PyProof.Rows PySem.Spec
namespace Mine
noncomputable def turnZ (a b c : Int) : Int :=
  if Int.fmod a 3 = Int.fmod b 3 ∨ Int.fmod a 3 = Int.fmod c 3 ∨ Int.fmod b 3 = Int.fmod c 3 then 0 else if Int.fmod (b - a) 3 = 1 then 1 else -1
theorem size3 (a b c : Int) : (((if (false || decide (c = a) || decide (c = b)) = true then (if (false || decide (b = a)) = true then 0 + 1 else 0 + 1 + 1) else (if (false || decide (b = a)) = true then 0 + 1 else 0 + 1 + 1) + 1 : Nat) : Int) < 3) ↔ (a = b ∨ a = c ∨ b = c) := by
  by_cases h1 : c = a <;> by_cases h2 : c = b <;> by_cases h3 : b = a <;> simp_all <;> omega
set_option maxRecDepth 100000 in
set_option maxHeartbeats 8000000 in
theorem turn_ok (w : World) (mean : ExcName → Option Value) (mg mb : Str → Option Value) (a b c : Int) (ta tb tc : Tok) (news : List (Addr × Obj)) :
  CbClaim PySem.Challenge.rw_st0008_01.row.prog w (hd.heap_1 w.params) hd.view_1 (looseW hd.view_1 loose3) mean mg mb 89 news [] True
    [.int a ta, .int b tb, .int c tc] (fun t => .int (turnZ a b c) t) := by
  k_fill
  dsimp only [CbClaim, CbLists, CbRet]
  intros
  rename_i hret
  refine wpAny_call ?_
  k_dflt cell_enter
  k_steps
  all_goals (refine cb_retI hret ?_ (by k_asm) ?_; rotate_left; (first | k_asm | (refine cb_drop (by assumption) ?_; kcj_all)); unfold turnZ)
  · rename ((_ : Int) < 3) => h9
    rw [if_pos ((size3 _ _ _).mp h9)]
  · rename (¬ (_ : Int) < 3) => h9
    rename ((_ : Int) = 1) => h8
    rw [if_neg (fun h => h9 ((size3 _ _ _).mpr h)), if_pos h8]
  · rename (¬ (_ : Int) < 3) => h9
    rename (¬ (_ : Int) = 1) => h8
    rw [if_neg (fun h => h9 ((size3 _ _ _).mpr h)), if_neg h8]
end Mine
end
section
-- Seg0
example : True := by
  w_top off
  trivial
open PySem PySem.W PyProof.Rows PySem.Spec
namespace Mine
noncomputable def lawParts : List Stmt × Scope := match PySem.Challenge.pw_st0008_01.main.body.drop 64 with
  | [.FunctionDef _ _ body _ _ _ scope _ _ _] => (body, scope)
  | _ => ([], { kind := .function, names := [], isGenerator := false, isCoroutine := false })
noncomputable def lawBody : List Stmt := lawParts.1
noncomputable def lawScope : Scope := lawParts.2
noncomputable def lawEnv (L fa : Addr) (cd : Value) : Env := envOfC (Str.ofString "law") lawScope L fa cd
theorem wp_execs_append {M : Model} {Γ : PySem.Ctx} {env : Env} {b : List Stmt} {Q : Flow → Pos → Shared → Prop} {E : Value → Pos → Shared → Prop} : ∀ (a : List Stmt) (p : Pos) (s : Shared),
    Sem.wp M Γ (execs (a ++ b) env) Q E p s = Sem.wp M Γ (execs a env) (fun f p' s' => match f with | .next => Sem.wp M Γ (execs b env) Q E p' s' | f => Q f p' s') E p s
  | [], p, s => by
    rw [List.nil_append]
    show _ = Sem.wp M Γ (pure Flow.next) _ E p s
    rw [Sem.wp_pure']
  | x :: a, p, s => by
    rw [List.cons_append, execs_cons, execs_cons, Sem.wp_bind', Sem.wp_bind']
    congr 1
    funext f p' s'
    cases f with
    | next => exact wp_execs_append a p' s'
    | _ => rfl
theorem execs_append {M : Model} {A : Around} {env : Env} (a b : List Stmt) {Q : Flow → Shared → Prop} {E : Value → Shared → Prop} {s : Shared}
    (h : wpAny M A (execs a env) (fun f s' => match f with | .next => wpAny M A (execs b env) Q E s' | f => Q f s') E s) : wpAny M A (execs (a ++ b) env) Q E s := by
  intro Γ p hΓ
  rw [wp_execs_append]
  refine Sem.wp_mono M Γ _ (fun f p' s' h' => ?_) (fun _ _ _ h' => h') _ _ (h Γ p hΓ)
  cases f <;> first | exact h' Γ p' hΓ | exact h'
end Mine
end
local macro_rules | `(tactic| walk_at "LINE0") => `(tactic| (k_here; k_dflt (refine replace_here (by first | exact tok_ne1 (by assumption) | exact tok_ne2) (by first | exact tok_ne1 (by assumption) | exact tok_ne2) (by exact tok_ne3) (by decide +kernel) (by first | exact rep_b0 (by assumption) | exact rep_b1 (by assumption) (by decide) | exact rep_b2 (by assumption) (by decide) (by decide)) (by decide) ?_); intro t' k))
local macro_rules | `(tactic| walk_at "LINE1") => `(tactic| (k_here; (fail_if_success (fail_if_success k_gentoks)); (refine keep_toks (by first | assumption | exact Nat.succ_pos _) ?_); intro tk htk))
section
-- Esc
example : True := by
  w_top off
  trivial
open PySem PySem.W PyProof.Rows PySem.Spec
namespace Mine
noncomputable def esc1 (x : Str) (y z : String) : Str := if (!(Builtin.Str.occurrences x (Str.ofString y) 0 x.length 1).isEmpty) = true then Txt.replace x (Str.ofString y) (Str.ofString z) else x
noncomputable def escOf (x : Str) : Str := esc1 (esc1 (esc1 x "&" "&amp;") "<" "&lt;") ">" "&gt;"
local macro_rules | `(tactic| walk_at "call builtin:str.replace") => `(tactic| walk_at "LINE0")
local macro_rules | `(tactic| walk_at "execs cons") => `(tactic| walk_at "LINE1")
local macro_rules | `(tactic| walk_at "execs nil") => `(tactic| walk_at "LINE1")
set_option maxRecDepth 100000 in
set_option maxHeartbeats 8000000 in
theorem esc_ok (w : World) (mean : ExcName → Option Value) (mg mb : Str → Option Value) (x : Str) (t : Tok) (hx : x.cps.size ≤ 600) (news : List (Addr × Obj)) :
  CbClaim PySem.Challenge.rw_st0008_01.row.prog w (hd.heap_1 w.params) hd.view_1 (looseW hd.view_1 loose3) mean mg mb 65 news [] True
    [.str x t] (fun t => .str (escOf x) t) := by
  revert hx
  k_fill
  intro hx
  dsimp only [CbClaim, CbLists, CbRet]
  intros
  rename_i hret
  refine wpAny_call ?_
  k_dflt cell_enter
  k_steps
  all_goals (unfold escOf esc1 at hret; simp only [*, Bool.not_true, Bool.not_false, Bool.false_eq_true, if_true, if_false] at hret)
  all_goals exact hret _ _ _ (by assumption) (by assumption)
end Mine
end
section
-- QD
example : True := by
  w_top off
  trivial
open PySem PySem.W PyProof.Rows PySem.Spec PySem.Builtin PySem.Builtin.Re
namespace Mine
theorem pat1 (P : Params) : patIn (hd.heap_1 P) 36 35 code1 := ⟨⟨_, _, _, _, _, rfl, rfl, rfl⟩, _, _, _, rfl, rfl, by decide +kernel⟩
theorem pat2 (P : Params) : patIn (hd.heap_1 P) 41 40 code2 := ⟨⟨_, _, _, _, _, rfl, rfl, rfl⟩, _, _, _, rfl, rfl, by decide +kernel⟩
local macro_rules | `(tactic| walk_at "getMethod ref") => `(tactic| (k_here; k_dflt (rename Fr _ _ _ _ => lF'); k_dflt (rename Frag.In (hd.heap_1 _) _ => lX'); k_dflt (refine pat_method lF' lX' (by rfl) (by rfl) (by rfl) ?_)))
theorem sz_mid {x : Str} (h : x.cps.size ≤ 600) : (subOf (fnd2 x) x (Str.ofString "\r\n")).cps.size ≤ 2000 := by
  have := sub_size (r := Str.ofString "\r\n") (finds2 x)
  have e : (Str.ofString "\r\n").length = 2 := rfl
  rw [e] at this
  omega
local macro_rules | `(tactic| walk_at "call builtin:re.Pattern.sub") => `(tactic| (k_here; k_dflt (rename Fr _ _ _ _ => lF'); k_dflt (rename Frag.In (hd.heap_1 _) _ => lX'); k_dflt (rename News _ _ _ _ => lN'); (first | k_dflt (refine pat_call (pat1 _) lF' lX' lN' (finds1 _ (sz_mid (by assumption))) (sz_mid (by assumption)) (by decide) (by decide +kernel) ?_) | k_dflt (refine pat_call (pat2 _) lF' lX' lN' (finds2 _) (by omega) (by decide) (by decide +kernel) ?_)); k_dflt (clear lF' lN')))
set_option maxRecDepth 100000 in
set_option maxHeartbeats 8000000 in
theorem quote_ok (w : World) (mean : ExcName → Option Value) (mg mb : Str → Option Value) (x : Str) (t : Tok) (hx : x.cps.size ≤ 600) (news : List (Addr × Obj)) :
  CbClaim PySem.Challenge.rw_st0008_01.row.prog w (hd.heap_1 w.params) hd.view_1 (looseW hd.view_1 loose3) mean mg mb 48 news [] True
    [.str x t] (fun t => .str (quoteOf x) t) := by
  revert hx
  k_fill
  intro hx
  dsimp only [CbClaim, CbLists, CbRet]
  intros
  rename_i hret
  refine wpAny_call ?_
  k_dflt cell_enter
  k_steps
  exact hret _ _ _ (by assumption) (by assumption)
end Mine
end
local macro_rules | `(tactic| walk_at "LINE2") => `(tactic| ((unfold LCg.FinE); intro D' h' tk' F' N' o1'; (try simp only [List.nil_append, List.cons_append] at N'); (try dsimp only)))
section
-- Spell
example : True := by
  w_top off
  trivial
open PySem PySem.W PyProof.Rows PySem.Spec
namespace Mine
noncomputable def spell1 (c : Nat) : Str := if c = 38 then Str.ofString "&amp;" else if c = 60 then Str.ofString "&lt;" else if c = 62 then Str.ofString "&gt;" else ⟨#[c]⟩
noncomputable def spellL (x : Str) : List Str := x.cps.toList.map spell1
noncomputable def spellOf (x : Str) : Str := Txt.join (Str.ofString "") (spellL x)
theorem spell_flat {c : Nat} {v : Value} (h : PyProof.V.Flat v ((Spec.lookup (.str ⟨#[c]⟩) [(.str (Str.ofString "&"), .str (Str.ofString "&amp;")), (.str (Str.ofString "<"), .str (Str.ofString "&lt;")), (.str (Str.ofString ">"), .str (Str.ofString "&gt;"))]).getD (.str ⟨#[c]⟩))) : ∃ t : Tok, v = .str (spell1 c) t := by
  have e : ∀ d : Nat, Spec.same (.str ⟨#[d]⟩) (.str ⟨#[c]⟩) = decide (d = c) := fun d => by
    show ((⟨#[d]⟩ : Str) == ⟨#[c]⟩) = _
    by_cases h : d = c
    · subst h; simp
    · simp [h]
  have e1 : Str.ofString "&" = ⟨#[38]⟩ := by decide +kernel
  have e2 : Str.ofString "<" = ⟨#[60]⟩ := by decide +kernel
  have e3 : Str.ofString ">" = ⟨#[62]⟩ := by decide +kernel
  rw [e1, e2, e3] at h
  unfold spell1
  simp only [Spec.lookup, e, decide_eq_true_eq, eq_comm (b := c)] at h
  split at h
  · rename_i h1; rw [if_pos h1]; exact h.str_inv
  · rename_i h1
    rw [if_neg h1]
    split at h
    · rename_i h2; rw [if_pos h2]; exact h.str_inv
    · rename_i h2
      rw [if_neg h2]
      split at h
      · rename_i h3; rw [if_pos h3]; exact h.str_inv
      · rename_i h3; rw [if_neg h3]; exact h.str_inv
theorem spell_len (c : Nat) : (spell1 c).length ≤ 5 := by
  unfold spell1
  split
  · decide
  · split
    · decide
    · split
      · decide
      · exact Nat.le_of_ble_eq_true rfl
theorem spell_sum {x : Str} (hx : x.cps.size ≤ 600) : ((spellL x).map (·.length)).sum + (spellL x).length * (Str.ofString "").length ≤ 16777216 := by
  have e : (Str.ofString "").length = 0 := rfl
  have h : ∀ l : List Nat, ((l.map spell1).map (·.length)).sum ≤ 5 * l.length := by
    intro l
    induction l with
    | nil => simp
    | cons a l ih =>
      have := spell_len a
      simp only [List.map_cons, List.sum_cons, List.length_cons]
      omega
  have := h x.cps.toList
  rw [Array.length_toList] at this
  rw [e, Nat.mul_zero]
  unfold spellL
  omega
local macro_rules | `(tactic| walk_at "eval ListComp") => `(tactic| (k_here; (with_reducible show wpAny _ _ (eval (Expr.ListComp _ [⟨Expr.Name _ _, _, [], 0⟩] _ _) _) _ _ _); k_dflt (refine str_ListComp (F₀ := by k_asm) (by with_unfolding_all rfl) (by decide) (by rfl) (by decide) (by rfl) ?_)))
local macro_rules | `(tactic| walk_at "CompSrcS") => `(tactic| (k_here; k_dflt (refine CompSrcS.intro (by rfl) (by k_asm) (by k_asm) (Nat.le_trans (by assumption) (by decide)) ?_; intro g')))
local macro_rules | `(tactic| walk_at "CompRest") => `(tactic| (refine Held.out ?_))
local macro_rules | `(tactic| walk_at "FinE") => `(tactic| walk_at "LINE2")
local macro_rules | `(tactic| walk_at "call builtin:str.join") => `(tactic| (k_here; (with_reducible show wpAny _ _ (call (Value.builtin "str.join") [Value.str _ _, Value.ref _]) _ _ _); k_dflt (refine' join_list ?jl ?ji ?jo ?_; (case jl => exact News.isList (by k_asm) (by k_mem)); (case ji => assumption); (case jo => exact spell_sum (by assumption))); intro _ _))
local macro_rules | `(tactic| k_all) => `(tactic| assumption)
set_option maxRecDepth 100000 in
set_option maxHeartbeats 8000000 in
theorem spell_ok (w : World) (mean : ExcName → Option Value) (mg mb : Str → Option Value) (x : Str) (t : Tok) (hx : x.cps.size ≤ 600) (news : List (Addr × Obj)) :
  CbClaim PySem.Challenge.rw_st0008_01.row.prog w (hd.heap_1 w.params) hd.view_1 (looseW hd.view_1 loose3) mean mg mb 77 news [] True
    [.str x t] (fun t => .str (spellOf x) t) := by
  revert hx
  k_fill
  intro hx
  dsimp only [CbClaim, CbLists, CbRet]
  intros
  rename_i hret
  refine wpAny_call ?_
  k_dflt (refine' code_defC ?k1 ?k2 ?k3 ?k4 ?k5 ?kA ?kF ?kK ?k6 ?k7 ?k8 ?k9 ?kB ?kD ?_ ?c2 ?c3 ?c4; (case kA => exact rfl); (case kF => exact rfl); (case kK => assumption); (case k1 => k_asm); (case k2 => k_asm); (case k3 => k_asm); (case k4 => k_asm); (case k5 => k_asm); (case k6 => k_is); (case k7 => k_is); (case k8 => ktr_room); (case k9 => exact BindsTo.of_eq rfl); (case kB => exact rfl); (case kD => decide +kernel); (case c2 => exact rfl); (case c3 => exact rfl); (case c4 => exact rfl); k_whole; intro g' L' h' tk' cells' FG' F' N' Y' B' X' T' l1; (try k_lt l1); k_cells Y'; (try simp only [List.cons_append, List.nil_append] at N'); (try dsimp only); (try k_lift B'); (try k_fold))
  have hne : ∀ p ∈ news, p.1 ≠ L' + 1 := fun p hp => Nat.ne_of_lt (Nat.lt_succ_of_lt (l1 p hp))
  k_steps
  refine Held.mk ?_
  refine compRest_pure (fun i y => ∃ (c : Nat) (t : Tok), x.cps[i]? = some c ∧ y = Value.str (spell1 c) t) trivial ?_ ?_
  · rintro i ys hi v I oI C oC D mm h tk E' ⟨c, t9, hc, rfl⟩ hC hx F N
    k_steps
    rename PyProof.V.Flat _ _ => hv9
    obtain ⟨t8, rfl⟩ := spell_flat hv9
    exact ⟨_, _, rfl, by k_asm, by k_asm, c, t8, hc, rfl⟩
  intro ys hl hR
  have hs : StrsAre ys (spellL x) := by
    refine strs_pt (by rw [hl]; simp [spellL]) fun i y hy => ?_
    obtain ⟨c, t9, hc, rfl⟩ := hR i y hy
    refine ⟨t9, ?_⟩
    rw [List.getD_eq_getElem?_getD]
    simp [spellL, hc]
  clear hR
  k_steps
  rename_i kF kN _ _
  exact hret _ _ _ kF (fun p hp => kN p (by first | exact hp | exact .tail _ hp | exact .tail _ (.tail _ hp) | exact .tail _ (.tail _ (.tail _ hp)) | exact .tail _ (.tail _ (.tail _ (.tail _ hp)))))
end Mine
end
section
-- NumbT
example : True := by
  w_top off
  trivial
open PySem PySem.W PyProof.Rows PySem.Spec
namespace Mine
noncomputable def numbParts : List Stmt × Scope := match PySem.Challenge.pw_st0008_01.main.body.drop 61 with
  | .FunctionDef _ _ body _ _ _ scope _ _ _ :: _ => (body, scope)
  | _ => ([], { kind := .function, names := [], isGenerator := false, isCoroutine := false })
noncomputable def numbBody : List Stmt := numbParts.1
noncomputable def numbEnv (L : Addr) : Env := envOfC (Str.ofString "_law_numbers") numbParts.2 L 82 (.ref 81)
noncomputable def tokTab : List (Str × Int) := [(⟨#[33]⟩, 54), (⟨#[33, 61]⟩, 28), (⟨#[37]⟩, 24), (⟨#[37, 61]⟩, 40), (⟨#[38]⟩, 19), (⟨#[38, 61]⟩, 41), (⟨#[40]⟩, 7), (⟨#[41]⟩, 8), (⟨#[42]⟩, 16), (⟨#[42, 42]⟩, 35), (⟨#[42, 42, 61]⟩, 46), (⟨#[42, 61]⟩, 38), (⟨#[43]⟩, 14), (⟨#[43, 61]⟩, 36), (⟨#[44]⟩, 12), (⟨#[45]⟩, 15), (⟨#[45, 61]⟩, 37), (⟨#[45, 62]⟩, 51), (⟨#[46]⟩, 23), (⟨#[46, 46, 46]⟩, 52), (⟨#[47]⟩, 17), (⟨#[47, 47]⟩, 47), (⟨#[47, 47, 61]⟩, 48), (⟨#[47, 61]⟩, 39), (⟨#[58]⟩, 11), (⟨#[58, 61]⟩, 53), (⟨#[59]⟩, 13), (⟨#[60]⟩, 20), (⟨#[60, 60]⟩, 33), (⟨#[60, 60, 61]⟩, 44), (⟨#[60, 61]⟩, 29), (⟨#[61]⟩, 22), (⟨#[61, 61]⟩, 27), (⟨#[62]⟩, 21), (⟨#[62, 61]⟩, 30), (⟨#[62, 62]⟩, 34), (⟨#[62, 62, 61]⟩, 45), (⟨#[64]⟩, 49), (⟨#[64, 61]⟩, 50), (⟨#[91]⟩, 9), (⟨#[93]⟩, 10), (⟨#[94]⟩, 32), (⟨#[94, 61]⟩, 43), (⟨#[123]⟩, 25), (⟨#[124]⟩, 18), (⟨#[124, 61]⟩, 42), (⟨#[125]⟩, 26), (⟨#[126]⟩, 31)]
noncomputable def isTok (z : Str) : Bool := tokTab.foldr (fun t acc => decide (z = t.1) || acc) false
noncomputable def tokOf (z : Str) : Option Int := (tokTab.find? fun t => decide (z = t.1)).map (·.2)
@[irreducible] noncomputable def bT (y : Str) (p : Nat) (k : Int) : Bool := isTok (Txt.slice y (some (p : Int)) (some ((p : Int) + k)))
theorem bT_def (y : Str) (p : Nat) (k : Int) : bT y p k = isTok (Txt.slice y (some (p : Int)) (some ((p : Int) + k))) := by unfold bT; rfl
@[irreducible] noncomputable def worth1 (a : Int) : Int := ([52, 19, 33, 34, 35, 47, 32, 18] : List Int).getD a.toNat 0
noncomputable def sl (y : Str) (p : Nat) (k : Int) : Str := Txt.slice y (some (p : Int)) (some ((p : Int) + k))
/-- what is known of the place p, where the signs l are still to be read -/
structure Reads (y : Str) (NA : List Int → Nat → Prop) : Prop where
  len : ∀ a r p, NA (a :: r) p → p < y.length
  fin : ∀ p, NA [] p → y.length ≤ p
  one : ∀ a r p, NA (a :: r) p → bT y p 1 = true
  r3 : ∀ a r p, NA (a :: r) p → bT y p 3 = true → tokOf (Txt.slice y (some (p : Int)) (some ((p : Int) + 3))) = some (worth1 a) ∧ NA r (p + 3)
  r2 : ∀ a r p, NA (a :: r) p → bT y p 3 = false → bT y p 2 = true → tokOf (Txt.slice y (some (p : Int)) (some ((p : Int) + 2))) = some (worth1 a) ∧ NA r (p + 2)
  r1 : ∀ a r p, NA (a :: r) p → bT y p 3 = false → bT y p 2 = false → tokOf (Txt.slice y (some (p : Int)) (some ((p : Int) + 1))) = some (worth1 a) ∧ NA r (p + 1)
noncomputable def tokDat : List (Str × KTD.Dat) := tokTab.map fun q => (q.1, KTD.Dat.flat (.int q.2))
theorem tokTab_at {P : Params} {h : Heap} (X : (hd.heap_1 P).In h) : KTD.TextTab h 49 (tokTab.map fun q => (q.1, KTD.Dat.flat (.int q.2))) := kt_text_in X (by kernel_rfl)
theorem ints1 {ys : List Value} {a : Int} (h : IntsAre ys [a]) : ∃ t1 : Tok, ys = [.int a t1] := by
  obtain ⟨t0, u0, e0, h0⟩ := h.cons_inv
  have e1 := h0.nil_inv
  subst e0 e1
  exact ⟨_, rfl⟩
theorem ints2 {ys : List Value} {a b : Int} (h : IntsAre ys [a, b]) : ∃ t1 t2 : Tok, ys = [.int a t1, .int b t2] := by
  obtain ⟨t0, u0, e0, h0⟩ := h.cons_inv
  obtain ⟨t1, e1⟩ := ints1 h0
  subst e0 e1
  exact ⟨_, _, rfl⟩
theorem ints3 {ys : List Value} {a b c : Int} (h : IntsAre ys [a, b, c]) : ∃ t1 t2 t3 : Tok, ys = [.int a t1, .int b t2, .int c t3] := by
  obtain ⟨t0, u0, e0, h0⟩ := h.cons_inv
  obtain ⟨t1, t2, e1⟩ := ints2 h0
  subst e0 e1
  exact ⟨_, _, _, rfl⟩
theorem fit_len {y : Str} (h : y.cps.size ≤ 1000000) : ¬ (y.length : Int) ≥ 2 ^ 63 := by
  have : y.length ≤ 1000000 := h
  omega
local macro_rules | `(tactic| k_all) => `(tactic| assumption)
local macro_rules | `(tactic| walk_at "compareOp Eq ref ref") => `(tactic| (k_here; k_dflt (refine PySem.SeqAt.eq_list_lengthsAt (News.isList (by k_asm) (by k_mem)) (News.isList (by k_asm) (by k_mem)) (by rfl) (by assumption) ?_)))
local macro_rules | `(tactic| walk_at "call builtin:len") => `(tactic| (k_here; (with_reducible show wpAny _ _ (call (Value.builtin "len") [Value.str _ _]) _ _ _); k_dflt (refine PySem.P.len_str (fit_len (by assumption)) ?_)))
local macro_rules | `(tactic| walk_at "WhlRest") => `(tactic| (refine Held.out ?_))
local macro_rules | `(tactic| walk_at "exec Assign cons ListComp") => `(tactic| (k_here; (with_reducible show wpAny _ _ (exec (Stmt.Assign _ (Expr.ListComp _ [⟨Expr.Name _ _, Expr.Tuple _ _ _, [_], 0⟩] _ _) _) _) _ _ _); k_dflt (refine assign_comp_tupT (F₀ := by k_asm) (by rfl) (by with_unfolding_all rfl) (by with_unfolding_all rfl) (by decide) (by rfl) (by decide) (by rfl) (by rfl) (by rfl) ?_)))
local macro_rules | `(tactic| walk_at "CompSrcUT") => `(tactic| (k_here; k_dflt (refine CompSrcUT.intro (by first | rfl | assumption) (by k_asm) (by k_asm) (by k_mem) (by first | size_fits | exact Nat.le_of_ble_eq_true rfl) ?_; intro g')))
local macro_rules | `(tactic| walk_at "CompRestT") => `(tactic| (refine Held.out ?_))
local macro_rules | `(tactic| walk_at "call builtin:list.append") => `(tactic| (refine Held.out ?_))
local macro_rules | `(tactic| walk_at "subscriptTail") => `(tactic| (k_here; (with_reducible show wpAny _ _ (subscriptTail _ _ (Value.ref 49) (Value.str _ _)) _ _ _); (rename Frag.In (hd.heap_1 _) _ => lX'); (rename Fr _ _ _ _ => lF'); k_dflt (refine tab_item tokTab ⟨tokTab_at lX', Fr.keep lF'⟩ (by assumption) (by rfl) ?_ (by with_unfolding_all rfl)); intro t7))
local macro_rules | `(tactic| walk_at "loadName") => `(tactic| (k_here; (rename News _ _ _ _ => lN'); k_dflt (refine wpAny_loadName_cell (by rfl) (by rfl) (by rfl) ⟨_, lN'.get (by k_mem), by assumption⟩ ?_)))
set_option maxRecDepth 100000 in
set_option maxHeartbeats 8000000 in
theorem numb_tail (w : World) (mean : ExcName → Option Value) (mg mb : Str → Option Value) :
    ∀ (A : Around) (base h₀ : Heap) (outer : List Env) (L : Nat) (m : Str → Option Value) (s : Shared) (Q : Flow → Shared → Prop) (E : Value → Shared → Prop)
    (y : Str) (ty tp : Tok) (news : List (Addr × Obj)) (D : Nat) (o1 o2 : Obj) (ds : List Int) (NA : List Int → Nat → Prop) (HR : Reads y NA) (h0 : NA ds 0) (hl : ds.length ≤ 100)
    (hA : A.handled = none) (hu : (A.deeper (numbEnv L)).units < cLine) (hE : PassesOwn (model PySem.Challenge.rw_st0008_01.row.prog w) (A.deeper (numbEnv L)) (numbEnv L) E) (F : Fr h₀ L s.heap m) (X : (hd.heap_1 w.params).In h₀)
    (N : News h₀ L s.heap ((D, listOf #[] 0) :: (L + 1 + 1, o2) :: (L + 1, o1) :: news))
    (T : Top hd.view_1 (looseW hd.view_1 loose3) mean mg mb h₀)
    (hm : m (Str.ofString "numbers") = some (.ref D)) (d1 : o1.data = .cell (some (.str y ty))) (d2 : o2.data = .cell (some (.int 0 tp)))
    (hD : L + 1 + 1 < D) (hn : ∀ p ∈ news, p.1 < L) (hy : y.cps.size ≤ 1000000)
    (hret : ∀ (zs : List Value) (m' : Str → Option Value) (q1 q2 : Obj) (h' : Heap) (tk' : Nat), IntsAre zs (ds.map worth1) → Fr h₀ L h' m' → News h₀ L h' ((D, LCg.lst zs) :: (L + 1 + 1, q2) :: (L + 1, q1) :: news) → Q (.ret (.ref D)) { s with heap := h', toks := tk' }),
    wpAny (model PySem.Challenge.rw_st0008_01.row.prog w) (A.deeper (numbEnv L)) (execs (numbBody.drop 3) (numbEnv L)) Q E s := by
  k_fill
  intro A base h₀ outer L m s Q E y ty tp news D o1 o2 ds NA HR h0 hl hA hu hE F X N T hm d1 d2 hD hn hy hret
  have em : ∀ {m' : Str → Option Value}, m' (Str.ofString "numbers") = some (.ref D) → m' = fun z => if z = Str.ofString "numbers" then some (.ref D) else m' z := by
    intro m' hm'
    funext z
    by_cases h : z = Str.ofString "numbers"
    · subst h; simp [hm']
    · simp [h]
  show wpAny _ _ (execs (_ :: _ :: []) _) _ _ _
  k_steps
  refine Held.mk ?_
  refine whl_ind (fun (l : List Int) s' => ∃ (p : Nat) (zs : List Value) (vs : List Int) (m' : Str → Option Value) (q1 q2 : Obj) (t1 t2 : Tok) (h' : Heap) (tk' : Nat), s' = { s with heap := h', toks := tk' } ∧ NA l p ∧ IntsAre zs vs ∧ vs ++ l.map worth1 = ds.map worth1 ∧ m' (Str.ofString "numbers") = some (.ref D) ∧ Fr h₀ L h' m' ∧
    News h₀ L h' ((D, LCg.lst zs) :: (L + 1 + 1, q2) :: (L + 1, q1) :: news) ∧ q1.data = .cell (some (.str y t1)) ∧ q2.data = .cell (some (.int p t2))) hE ?_ ?_ ds _ ⟨0, [], [], m, o1, o2, ty, tp, _, _, rfl, h0, .nil, rfl, hm, F, N, d1, d2⟩ 100
  · rintro a r s2 ⟨p, zs, vs, m', q1, q2, t1, t2, h', tk', rfl, hat, hzs, hvs, hm', F2, N2, e1, e2⟩
    clear F N d1 d2
    rw [em hm'] at F2
    have hne1 : ∀ p ∈ news, p.1 ≠ L + 1 := fun p hp => Nat.ne_of_lt (Nat.lt_succ_of_lt (hn p hp))
    have hne2 : ∀ p ∈ news, p.1 ≠ L + 1 + 1 := fun p hp => Nat.ne_of_lt (Nat.lt_succ_of_lt (Nat.lt_succ_of_lt (hn p hp)))
    k_steps
    refine ⟨decide_eq_true (Int.ofNat_lt.mpr (HR.len a r p hat)), ?_⟩
    k_steps
    refine Held.mk ?_
    refine compRestT_ints [1, 2, 3] (fun k => bT y p k) ?hS ?hP ?step ?fin 3 0 rfl [] .nil
    case hS => exact ⟨_, by k_mem, rfl, _, rfl⟩
    case hP =>
      intro i v hv
      match i, hv with
      | 0, hv => exact ⟨1, _, rfl, (Option.some.inj hv).symm⟩
      | 1, hv => exact ⟨2, _, rfl, (Option.some.inj hv).symm⟩
      | 2, hv => exact ⟨3, _, rfl, (Option.some.inj hv).symm⟩
    case step =>
      intro k t I oI C oC Dn ys mm h tk E' hk hC hx F N
      k_steps
      refine ⟨(bT_def y p k).symm ▸ rfl, fun _ => ?_, _, _, rfl, by k_asm, by k_asm⟩
      k_steps
      exact ⟨_, _, rfl, by k_asm, by k_asm, _, rfl⟩
    case fin =>
      intro ys hys
      have hb1 : bT y p 1 = true := HR.one a r p hat
      cases hb3 : bT y p 3 with
      | true =>
        cases hb2 : bT y p 2 with
        | true =>
          have hys' : IntsAre ys [1, 2, 3] := by simpa only [List.filter_cons, hb1, hb2, hb3, List.filter_nil, if_true, if_false, Bool.false_eq_true] using hys
          obtain ⟨t4, t5, t6, rfl⟩ := ints3 hys'
          clear hys hys'
          obtain ⟨hz, hnext⟩ := HR.r3 a r p hat hb3
          unfold LCg.FinA
          intro sz h5 tk5 F5 N5 off5
          (try simp only [List.nil_append, List.cons_append] at N5)
          (try dsimp only)
          k_steps
          refine Held.mk ?_
          rename Tok => t7
          rename Fr _ _ _ _ => FF
          rename News _ _ _ _ => NN
          have hszD : sz ≠ D := off1_mem off5 (D, LCg.lst zs) (by k_mem) |>.symm
          refine append_led (zs := zs) (news := (sz, LCg.lst [.int 1 t4, .int 2 t5, .int 3 t6]) :: (L + 1 + 1, q2) :: (L + 1, q1) :: news) FF (fun q hq => NN q ?_) (fun q hq => ?_) ?_ fun h9 F9 N9 => ?_
          · rcases List.mem_cons.mp hq with rfl | hq
            · k_mem
            · rcases List.mem_cons.mp hq with rfl | hq
              · k_mem
              · rcases List.mem_cons.mp hq with rfl | hq
                · k_mem
                · rcases List.mem_cons.mp hq with rfl | hq
                  · k_mem
                  · first | exact .tail _ (.tail _ (.tail _ (.tail _ (.tail _ hq)))) | exact .tail _ (.tail _ (.tail _ (.tail _ (.tail _ (.tail _ hq))))) | exact .tail _ (.tail _ (.tail _ (.tail _ (.tail _ (.tail _ (.tail _ hq))))))
          · rcases List.mem_cons.mp hq with rfl | hq
            · exact hszD
            · rcases List.mem_cons.mp hq with rfl | hq
              · exact Nat.ne_of_lt hD
              · rcases List.mem_cons.mp hq with rfl | hq
                · exact Nat.ne_of_lt (Nat.lt_of_succ_lt hD)
                · exact Nat.ne_of_lt (Nat.lt_trans (hn q hq) (Nat.lt_of_succ_lt (Nat.lt_of_succ_lt hD)))
          · have h1 := congrArg List.length hvs
            have h2 := hzs.length
            simp only [List.length_append, List.length_map, List.length_cons] at h1
            show zs.length ≤ 2 ^ 24
            omega
          clear FF NN
          have hs2 : @Ne Nat sz (L + 1 + 1) := off1_mem off5 (L + 1 + 1, q2) (by k_mem) |>.symm
          have hs1 : @Ne Nat sz (L + 1) := off1_mem off5 (L + 1, q1) (by k_mem) |>.symm
          have hsD : @Ne Nat sz D := hszD
          k_steps
          rename Fr _ _ _ _ => FZ
          rename News _ _ _ _ => NZ
          refine ⟨rfl, p + 3, zs ++ [.int (worth1 a) t7], vs ++ [worth1 a], _, _, _, _, _, _, _, rfl, hnext, ints_snoc hzs _ _, ?_, ?_, FZ, fun q hq => NZ q ?_, by assumption, by assumption⟩
          · simpa using hvs
          · rfl
          · rcases List.mem_cons.mp hq with rfl | hq
            · exact List.mem_cons_self ..
            · exact List.mem_cons_of_mem _ (List.mem_cons_of_mem _ hq)
        | false =>
          have hys' : IntsAre ys [1, 3] := by simpa only [List.filter_cons, hb1, hb2, hb3, List.filter_nil, if_true, if_false, Bool.false_eq_true] using hys
          obtain ⟨t4, t5, rfl⟩ := ints2 hys'
          clear hys hys'
          obtain ⟨hz, hnext⟩ := HR.r3 a r p hat hb3
          unfold LCg.FinA
          intro sz h5 tk5 F5 N5 off5
          (try simp only [List.nil_append, List.cons_append] at N5)
          (try dsimp only)
          k_steps
          refine Held.mk ?_
          rename Tok => t7
          rename Fr _ _ _ _ => FF
          rename News _ _ _ _ => NN
          have hszD : sz ≠ D := off1_mem off5 (D, LCg.lst zs) (by k_mem) |>.symm
          refine append_led (zs := zs) (news := (sz, LCg.lst [.int 1 t4, .int 3 t5]) :: (L + 1 + 1, q2) :: (L + 1, q1) :: news) FF (fun q hq => NN q ?_) (fun q hq => ?_) ?_ fun h9 F9 N9 => ?_
          · rcases List.mem_cons.mp hq with rfl | hq
            · k_mem
            · rcases List.mem_cons.mp hq with rfl | hq
              · k_mem
              · rcases List.mem_cons.mp hq with rfl | hq
                · k_mem
                · rcases List.mem_cons.mp hq with rfl | hq
                  · k_mem
                  · first | exact .tail _ (.tail _ (.tail _ (.tail _ (.tail _ hq)))) | exact .tail _ (.tail _ (.tail _ (.tail _ (.tail _ (.tail _ hq))))) | exact .tail _ (.tail _ (.tail _ (.tail _ (.tail _ (.tail _ (.tail _ hq))))))
          · rcases List.mem_cons.mp hq with rfl | hq
            · exact hszD
            · rcases List.mem_cons.mp hq with rfl | hq
              · exact Nat.ne_of_lt hD
              · rcases List.mem_cons.mp hq with rfl | hq
                · exact Nat.ne_of_lt (Nat.lt_of_succ_lt hD)
                · exact Nat.ne_of_lt (Nat.lt_trans (hn q hq) (Nat.lt_of_succ_lt (Nat.lt_of_succ_lt hD)))
          · have h1 := congrArg List.length hvs
            have h2 := hzs.length
            simp only [List.length_append, List.length_map, List.length_cons] at h1
            show zs.length ≤ 2 ^ 24
            omega
          clear FF NN
          have hs2 : @Ne Nat sz (L + 1 + 1) := off1_mem off5 (L + 1 + 1, q2) (by k_mem) |>.symm
          have hs1 : @Ne Nat sz (L + 1) := off1_mem off5 (L + 1, q1) (by k_mem) |>.symm
          have hsD : @Ne Nat sz D := hszD
          k_steps
          rename Fr _ _ _ _ => FZ
          rename News _ _ _ _ => NZ
          refine ⟨rfl, p + 3, zs ++ [.int (worth1 a) t7], vs ++ [worth1 a], _, _, _, _, _, _, _, rfl, hnext, ints_snoc hzs _ _, ?_, ?_, FZ, fun q hq => NZ q ?_, by assumption, by assumption⟩
          · simpa using hvs
          · rfl
          · rcases List.mem_cons.mp hq with rfl | hq
            · exact List.mem_cons_self ..
            · exact List.mem_cons_of_mem _ (List.mem_cons_of_mem _ hq)
      | false =>
        cases hb2 : bT y p 2 with
        | true =>
          have hys' : IntsAre ys [1, 2] := by simpa only [List.filter_cons, hb1, hb2, hb3, List.filter_nil, if_true, if_false, Bool.false_eq_true] using hys
          obtain ⟨t4, t5, rfl⟩ := ints2 hys'
          clear hys hys'
          obtain ⟨hz, hnext⟩ := HR.r2 a r p hat hb3 hb2
          unfold LCg.FinA
          intro sz h5 tk5 F5 N5 off5
          (try simp only [List.nil_append, List.cons_append] at N5)
          (try dsimp only)
          k_steps
          refine Held.mk ?_
          rename Tok => t7
          rename Fr _ _ _ _ => FF
          rename News _ _ _ _ => NN
          have hszD : sz ≠ D := off1_mem off5 (D, LCg.lst zs) (by k_mem) |>.symm
          refine append_led (zs := zs) (news := (sz, LCg.lst [.int 1 t4, .int 2 t5]) :: (L + 1 + 1, q2) :: (L + 1, q1) :: news) FF (fun q hq => NN q ?_) (fun q hq => ?_) ?_ fun h9 F9 N9 => ?_
          · rcases List.mem_cons.mp hq with rfl | hq
            · k_mem
            · rcases List.mem_cons.mp hq with rfl | hq
              · k_mem
              · rcases List.mem_cons.mp hq with rfl | hq
                · k_mem
                · rcases List.mem_cons.mp hq with rfl | hq
                  · k_mem
                  · first | exact .tail _ (.tail _ (.tail _ (.tail _ (.tail _ hq)))) | exact .tail _ (.tail _ (.tail _ (.tail _ (.tail _ (.tail _ hq))))) | exact .tail _ (.tail _ (.tail _ (.tail _ (.tail _ (.tail _ (.tail _ hq))))))
          · rcases List.mem_cons.mp hq with rfl | hq
            · exact hszD
            · rcases List.mem_cons.mp hq with rfl | hq
              · exact Nat.ne_of_lt hD
              · rcases List.mem_cons.mp hq with rfl | hq
                · exact Nat.ne_of_lt (Nat.lt_of_succ_lt hD)
                · exact Nat.ne_of_lt (Nat.lt_trans (hn q hq) (Nat.lt_of_succ_lt (Nat.lt_of_succ_lt hD)))
          · have h1 := congrArg List.length hvs
            have h2 := hzs.length
            simp only [List.length_append, List.length_map, List.length_cons] at h1
            show zs.length ≤ 2 ^ 24
            omega
          clear FF NN
          have hs2 : @Ne Nat sz (L + 1 + 1) := off1_mem off5 (L + 1 + 1, q2) (by k_mem) |>.symm
          have hs1 : @Ne Nat sz (L + 1) := off1_mem off5 (L + 1, q1) (by k_mem) |>.symm
          have hsD : @Ne Nat sz D := hszD
          k_steps
          rename Fr _ _ _ _ => FZ
          rename News _ _ _ _ => NZ
          refine ⟨rfl, p + 2, zs ++ [.int (worth1 a) t7], vs ++ [worth1 a], _, _, _, _, _, _, _, rfl, hnext, ints_snoc hzs _ _, ?_, ?_, FZ, fun q hq => NZ q ?_, by assumption, by assumption⟩
          · simpa using hvs
          · rfl
          · rcases List.mem_cons.mp hq with rfl | hq
            · exact List.mem_cons_self ..
            · exact List.mem_cons_of_mem _ (List.mem_cons_of_mem _ hq)
        | false =>
          have hys' : IntsAre ys [1] := by simpa only [List.filter_cons, hb1, hb2, hb3, List.filter_nil, if_true, if_false, Bool.false_eq_true] using hys
          obtain ⟨t4, rfl⟩ := ints1 hys'
          clear hys hys'
          obtain ⟨hz, hnext⟩ := HR.r1 a r p hat hb3 hb2
          unfold LCg.FinA
          intro sz h5 tk5 F5 N5 off5
          (try simp only [List.nil_append, List.cons_append] at N5)
          (try dsimp only)
          k_steps
          refine Held.mk ?_
          rename Tok => t7
          rename Fr _ _ _ _ => FF
          rename News _ _ _ _ => NN
          have hszD : sz ≠ D := off1_mem off5 (D, LCg.lst zs) (by k_mem) |>.symm
          refine append_led (zs := zs) (news := (sz, LCg.lst [.int 1 t4]) :: (L + 1 + 1, q2) :: (L + 1, q1) :: news) FF (fun q hq => NN q ?_) (fun q hq => ?_) ?_ fun h9 F9 N9 => ?_
          · rcases List.mem_cons.mp hq with rfl | hq
            · k_mem
            · rcases List.mem_cons.mp hq with rfl | hq
              · k_mem
              · rcases List.mem_cons.mp hq with rfl | hq
                · k_mem
                · rcases List.mem_cons.mp hq with rfl | hq
                  · k_mem
                  · first | exact .tail _ (.tail _ (.tail _ (.tail _ (.tail _ hq)))) | exact .tail _ (.tail _ (.tail _ (.tail _ (.tail _ (.tail _ hq))))) | exact .tail _ (.tail _ (.tail _ (.tail _ (.tail _ (.tail _ (.tail _ hq))))))
          · rcases List.mem_cons.mp hq with rfl | hq
            · exact hszD
            · rcases List.mem_cons.mp hq with rfl | hq
              · exact Nat.ne_of_lt hD
              · rcases List.mem_cons.mp hq with rfl | hq
                · exact Nat.ne_of_lt (Nat.lt_of_succ_lt hD)
                · exact Nat.ne_of_lt (Nat.lt_trans (hn q hq) (Nat.lt_of_succ_lt (Nat.lt_of_succ_lt hD)))
          · have h1 := congrArg List.length hvs
            have h2 := hzs.length
            simp only [List.length_append, List.length_map, List.length_cons] at h1
            show zs.length ≤ 2 ^ 24
            omega
          clear FF NN
          have hs2 : @Ne Nat sz (L + 1 + 1) := off1_mem off5 (L + 1 + 1, q2) (by k_mem) |>.symm
          have hs1 : @Ne Nat sz (L + 1) := off1_mem off5 (L + 1, q1) (by k_mem) |>.symm
          have hsD : @Ne Nat sz D := hszD
          k_steps
          rename Fr _ _ _ _ => FZ
          rename News _ _ _ _ => NZ
          refine ⟨rfl, p + 1, zs ++ [.int (worth1 a) t7], vs ++ [worth1 a], _, _, _, _, _, _, _, rfl, hnext, ints_snoc hzs _ _, ?_, ?_, FZ, fun q hq => NZ q ?_, by assumption, by assumption⟩
          · simpa using hvs
          · rfl
          · rcases List.mem_cons.mp hq with rfl | hq
            · exact List.mem_cons_self ..
            · exact List.mem_cons_of_mem _ (List.mem_cons_of_mem _ hq)
  · rintro s2 ⟨p, zs, vs, m', q1, q2, t1, t2, h', tk', rfl, hat, hzs, hvs, hm', F2, N2, e1, e2⟩
    clear F N d1 d2
    rw [em hm'] at F2
    k_steps
    refine ⟨decide_eq_false (fun h => Nat.lt_irrefl _ (Nat.lt_of_lt_of_le (Int.ofNat_lt.mp h) (HR.fin p hat))), ?_⟩
    k_steps
    rename Fr _ _ _ _ => FZ
    rename News _ _ _ _ => NZ
    exact hret zs _ _ _ _ _ (by rw [← hvs, List.map_nil, List.append_nil]; exact hzs) FZ NZ
end Mine
end
section
-- Numb
example : True := by
  w_top off
  trivial
open PySem PySem.W PyProof.Rows PySem.Spec
namespace Mine
theorem unr_off {i : Addr} {o : Obj} {l : List (Addr × Obj)} (h : AllLt i l) : ∀ p ∈ l, ∀ q ∈ [(i, o)], p.1 ≠ q.1 := by
  intro p hp q hq
  rw [List.mem_singleton.mp hq]
  induction l with
  | nil => cases hp
  | cons a l ih =>
    rcases List.mem_cons.mp hp with rfl | hp
    · exact Nat.ne_of_lt h.1
    · exact ih h.2 hp
theorem execs_append_held {M : Model} {A : Around} {env : Env} (a b : List Stmt) {Q : Flow → Shared → Prop} {E : Value → Shared → Prop} {s : Shared}
    (h : wpAny M A (execs a env) (fun f s' => match f with | .next => Held (wpAny M A (execs b env) Q E s') | f => Q f s') E s) : wpAny M A (execs (a ++ b) env) Q E s := by
  refine execs_append _ _ (wpAny_mono h (fun f s' h' => ?_) fun _ _ e => e)
  cases f <;> first | exact h'.out | exact h'
theorem news_drop4 {h₀ h : Heap} {L : Addr} {a b c d e : Addr × Obj} {r : List (Addr × Obj)} (N : News h₀ L h (a :: b :: c :: d :: e :: r)) : News h₀ L h (a :: r) := by
  intro q hq
  refine N q ?_
  rcases List.mem_cons.mp hq with rfl | hq
  · exact List.mem_cons_self ..
  · exact .tail _ (.tail _ (.tail _ (.tail _ (.tail _ hq))))
theorem off1_allLt {D : Addr} : ∀ {l : List (Addr × Obj)}, AllLt D l → LCg.Off1 D l
  | [], _ => trivial
  | _ :: _, h => ⟨Nat.ne_of_lt h.1, off1_allLt h.2⟩
theorem cb_drop2 {a b c p : Addr × Obj} {r : List (Addr × Obj)} (h : p ∈ a :: r) : p ∈ a :: b :: c :: r := by
  rcases List.mem_cons.mp h with rfl | h
  · exact List.mem_cons_self ..
  · exact .tail _ (.tail _ (.tail _ h))
local macro_rules | `(tactic| walk_at "UnrEndW") => `(tactic| (k_here; (rename Fr _ _ _ _ => lF'); (rename News _ _ _ _ => lN'); k_dflt (refine ⟨_, _, _, _, rfl, lF', lN', unr_off (by assumption), ⟨List.mem_cons_self .., trivial⟩, ?_⟩); clear lF' lN'))
local macro_rules | `(tactic| k_all) => `(tactic| assumption)
local macro_rules | `(tactic| walk_at "pyIter ref") => `(tactic| (k_here; (with_reducible show wpAny _ _ (pyIter (Value.ref _)) (fun it s₂ => TurnsAt _ _ _ _ _ _ _ _ _ it s₂) _ _); (rename Fr _ _ _ _ => lF'); (rename News _ _ _ _ => lN'); (with_unfolding_all refine iter_listTurns (by rfl) lF' lN' (List.mem_cons_self ..) (by rfl) (by rfl) ?_); clear lF' lN'; intro i' l1; (try k_lt l1)))
local macro_rules | `(tactic| walk_at "call builtin:str.replace") => `(tactic| walk_at "LINE0")
local macro_rules | `(tactic| walk_at "execs cons") => `(tactic| walk_at "LINE1")
local macro_rules | `(tactic| walk_at "execs nil") => `(tactic| walk_at "LINE1")
set_option maxRecDepth 100000 in
set_option maxHeartbeats 8000000 in
theorem numb_ok (w : World) (mean : ExcName → Option Value) (mg mb : Str → Option Value) :
    ∀ (dp un : Nat) (gd : Option (List Code)) (cn : Str) (cs : Scope) (a : Addr) (ccd : Value) (cl : List (Str × Addr)) (outer : List Env) (A₀ : Around) (base h₀ : Heap) (L : Addr) (m : Str → Option Value) (s : Shared) (Q E : Value → Shared → Prop)
    (x y : Str) (t : Tok) (news : List (Addr × Obj)) (ds : List Int) (NA : List Int → Nat → Prop) (HR : Reads y NA) (h0 : NA ds 0) (hds : ds.length ≤ 100)
    (hxy : Txt.replace (Txt.replace (Txt.replace x (Str.ofString "&lt;") (Str.ofString "<")) (Str.ofString "&gt;") (Str.ofString ">")) (Str.ofString "&amp;") (Str.ofString "&") = y) (hy : y.cps.size ≤ 1000000)
    (B : Below A₀ base outer h₀) (F : Fr h₀ L s.heap m) (X : (hd.heap_1 w.params).In h₀) (N : News h₀ L s.heap news)
    (T : Top hd.view_1 (looseW hd.view_1 loose3) mean mg mb h₀) (hk : cs.kind = .function)
    (hx : x.cps.size ≤ 600) (ht : 0 < s.toks)
    (hd1 : dp + 1 < recursionLimit) (hu1 : un + 8 < cLine)
    (hret : ∀ (D : Addr) (zs : List Value) (h' : Heap) (tk' : Nat), Fr h₀ L h' m → News h₀ L h' ((D, LCg.lst zs) :: news) → LCg.Off1 D news → IntsAre zs (ds.map worth1) → Q (.ref D) { s with heap := h', toks := tk' }),
    wpAny (model PySem.Challenge.rw_st0008_01.row.prog w) (ktrTop dp un gd cn cs L a ccd cl outer) (call (.ref 82) [.str x t]) Q E s := by
  k_fill
  intro dp un gd cn cs a ccd cl outer A₀ base h₀ L m s Q E x y t news ds NA HR h0 hds hxy hy B F X N T hk hx ht hd1 hu1 hret
  refine wpAny_call ?_
  k_dflt (refine' enterT ht ?k1 ?k2 ?k3 ?k4 ?k5 ?kA ?kF ?kK ?k6 ?k7 ?k8 ?k9 ?kB ?kD ?_ ?c2 ?c3 ?c4; (case kA => exact rfl); (case kF => exact rfl); (case kK => assumption); (case k1 => k_asm); (case k2 => k_asm); (case k3 => k_asm); (case k4 => k_asm); (case k5 => k_asm); (case k6 => k_is); (case k7 => k_is); (case k8 => ktr_room); (case k9 => exact BindsTo.of_eq rfl); (case kB => exact rfl); (case kD => decide +kernel); (case c2 => exact rfl); (case c3 => exact rfl); (case c4 => exact rfl); k_whole; intro g' L' h' tk' cells' hk9 FG' F' N' Y' B' X' T' l1; (try k_lt l1); k_cells Y'; (try simp only [List.cons_append, List.nil_append] at N'); (try dsimp only); (try k_lift B'); (try k_fold))
  have hne1 : ∀ p ∈ news, p.1 ≠ L' + 1 := fun p hp => Nat.ne_of_lt (Nat.lt_succ_of_lt (l1 p hp))
  have hne2 : ∀ p ∈ news, p.1 ≠ L' + 1 + 1 := fun p hp => Nat.ne_of_lt (Nat.lt_succ_of_lt (Nat.lt_succ_of_lt (l1 p hp)))
  show wpAny _ (Around.deeper _ (numbEnv L')) (execs (numbBody.take 3 ++ numbBody.drop 3) (numbEnv L')) _ _ _
  refine execs_append_held _ _ ?_
  show wpAny _ _ (execs (_ :: _ :: _ :: []) _) _ _ _
  k_steps
  refine Held.mk ?_
  rename Fr g' _ _ _ => lF
  rename News g' _ _ _ => lN
  have hu2 : ((ktrTop dp un gd cn cs L a ccd cl outer).deeper (numbEnv L')).units < cLine := by
    ktr_unf
    ktr_units
  rename _ ∧ _ ∧ _ ∧ _ ∧ _ ∧ _ ∧ AllLt _ news => lL
  have hl5 := lL.2.2.2.2.1
  have hl7 := off1_allLt lL.2.2.2.2.2.2
  have lM := news_drop4 lN
  clear lN
  refine' numb_tail w mean mg mb _ base _ outer _ _ _ _ _ y ?ty ?tp news ?D ?o1 ?o2 ds NA HR h0 hds rfl hu2 ?hE lF X' lM T' ?hm ?d1 ?d2 ?hD l1 hy ?fin
  case hm => exact rfl
  case d1 => rw [← hxy]; assumption
  case d2 => assumption
  case hD => assumption
  case hE => passes_own
  case fin =>
    intro zs m' q1 q2 h9 tk9 hz F9 N9
    clear lF lM
    k_steps
    rename_i kF kN _ _
    exact hret _ zs _ _ kF (fun p hp => kN p (cb_drop2 hp)) hl7 hz
end Mine
end
section
-- SegA
example : True := by
  w_top off
  trivial
open PySem PySem.W PyProof.Rows PySem.Spec
namespace Mine
noncomputable def signsL : List Str := [Str.ofString "...", Str.ofString "&", Str.ofString "<<", Str.ofString ">>", Str.ofString "**", Str.ofString "//", Str.ofString "^", Str.ofString "|"]
noncomputable def worthL : List Int := [52, 19, 33, 34, 35, 47, 32, 18]
noncomputable def endsL : List Str := [Str.ofString "\n", Str.ofString "\x0d", Str.ofString "\x0d\n", Str.ofString "\n\n", Str.ofString "\x0d\x0d", Str.ofString "\n\x0d", Str.ofString ""]
noncomputable def sentL : List Str := [Str.ofString "\x0d\n", Str.ofString "\x0d\n", Str.ofString "\x0d\n", Str.ofString "\x0d\n\x0d\n", Str.ofString "\x0d\n\x0d\n", Str.ofString "\x0d\n\x0d\n", Str.ofString ""]
local macro_rules | `(tactic| walk_at "call ref") => `(tactic| (k_here; (refine Held.out ?_)))
set_option maxRecDepth 100000 in
set_option maxHeartbeats 8000000 in
theorem segA (w : World) (mean : ExcName → Option Value) (mg mb : Str → Option Value) :
    ∀ (h₀ : Heap) (L fa : Nat) (cd : Value) (m : Str → Option Value) (s : Shared) (Q : Flow → Shared → Prop) (E : Value → Shared → Prop)
    (l : Addr) (vs : List Value) (ns : List Int) (o1 o2 o3 o4 o5 o6 o7 : Obj),
    Below callerA h₀ [] h₀ → Fr h₀ L s.heap m → (hd.heap_1 w.params).In h₀ →
    News h₀ L s.heap [(L + 1 + 1 + 1 + 1 + 1 + 1 + 1, o7), (L + 1 + 1 + 1 + 1 + 1 + 1, o6), (L + 1 + 1 + 1 + 1 + 1, o5), (L + 1 + 1 + 1 + 1, o4), (L + 1 + 1 + 1, o3), (L + 1 + 1, o2), (L + 1, o1)] →
    o1.data = .cell none → o2.data = .cell none → o3.data = .cell none → o4.data = .cell none → o5.data = .cell none → o6.data = .cell none → o7.data = .cell none →
    Top hd.view_1 (looseW hd.view_1 loose3) mean mg mb h₀ → h₀.IsList l vs.toArray → IntsAre vs ns → ns.length ≤ 63 → m (Str.ofString "script") = some (.ref l) →
    (∀ (x0 x1 x2 x3 x4 x5 x6 x7 x8 x9 x10 x11 x12 : Int) (t0 t1 t2 t3 t4 t5 t6 t7 t8 t9 t10 t11 t12 tf tt u0 u1 u2 : Tok) (mk se en wo sg ce : Nat) (sgs ens ses wos : List Value) (q1 q2 q3 q4 q5 q6 q7 : Obj) (m' : Str → Option Value) (h' : Heap) (tk' : Nat),
      (0 ≤ x0 ∧ x0 ≤ 10000000000) ∧ (0 ≤ x1 ∧ x1 ≤ 10000000000) ∧ (0 ≤ x2 ∧ x2 ≤ 10000000000) ∧ (0 ≤ x3 ∧ x3 ≤ 10000000000) ∧ (0 ≤ x4 ∧ x4 ≤ 10000000000) ∧ (0 ≤ x5 ∧ x5 ≤ 10000000000) ∧ (0 ≤ x6 ∧ x6 ≤ 10000000000) ∧ (0 ≤ x7 ∧ x7 ≤ 10000000000) ∧ (0 ≤ x8 ∧ x8 ≤ 10000000000) ∧ (0 ≤ x9 ∧ x9 ≤ 10000000000) ∧ (0 ≤ x10 ∧ x10 ≤ 10000000000) ∧ (0 ≤ x11 ∧ x11 ≤ 10000000000) ∧ (0 ≤ x12 ∧ x12 ≤ 10000000000) → StrsAre sgs signsL → StrsAre ens endsL → StrsAre ses sentL → IntsAre wos worthL →
      m' (Str.ofString "form") = some (.int x0 tf) → m' (Str.ofString "marks") = some (.ref mk) → Fr h₀ L h' m' →
      News h₀ L h' [(mk, listOf #[.int (x0.fmod 6) u0, .int ((x0.fdiv 6).fmod 6) u1, .int ((x0.fdiv 36).fmod 7) u2] 0), (se, listOf ses.toArray 0), (en, listOf ens.toArray 0), (wo, listOf wos.toArray 0), (sg, listOf sgs.toArray 0), (ce, listOf #[.int x0 t0, .int x1 t1, .int x2 t2, .int x3 t3, .int x4 t4, .int x5 t5, .int x6 t6, .int x7 t7, .int x8 t8, .int x9 t9, .int x10 t10, .int x11 t11, .int x12 t12] 0), (L + 1 + 1 + 1 + 1 + 1 + 1 + 1, q7), (L + 1 + 1 + 1 + 1 + 1 + 1, q6), (L + 1 + 1 + 1 + 1 + 1, q5), (L + 1 + 1 + 1 + 1, q4), (L + 1 + 1 + 1, q3), (L + 1 + 1, q2), (L + 1, q1)] →
      q1.data = .cell (some (.ref ce)) → q2.data = .cell (some (.ref sg)) → q3.data = .cell (some (.ref wo)) → q4.data = .cell (some (.ref en)) → q5.data = .cell (some (.ref se)) → q6.data = .cell (some (.int (1 + (x0.fdiv 252).fmod 3) tt)) → q7.data = .cell none →
      L + 1 + 1 + 1 + 1 + 1 + 1 + 1 < ce ∧ ce < sg ∧ sg < wo ∧ wo < en ∧ en < se ∧ se < mk → Q .next { s with heap := h', toks := tk' }) →
    wpAny (model PySem.Challenge.rw_st0008_01.row.prog w) (callerA.deeper (lawEnv L fa cd)) (execs (lawBody.take 8) (lawEnv L fa cd)) Q E s := by
  k_fill
  intro h₀ L fa cd m s Q E l vs ns o1 o2 o3 o4 o5 o6 o7 B F X N d1 d2 d3 d4 d5 d6 d7 T hl hi hn hm hret
  have em : m = fun y => if y = Str.ofString "script" then some (.ref l) else m y := by
    funext y
    by_cases h : y = Str.ofString "script"
    · subst h; simp [hm]
    · simp [h]
  rw [em] at F
  clear em
  show wpAny _ _ (execs (_ :: _ :: _ :: _ :: _ :: _ :: _ :: _ :: []) _) _ _ _
  k_steps
  refine Held.mk ?_
  (refine' cells13 _ _ _ _ _ _ _ _ _ _ _ _ _ _ _ _ _ _ _ _ _ _ _ _ ?us _ [355, 1, 2, 4, 0, 0, 6, 3, 7, 0, 5, 2, 1] _ _ ?k1 ?k2 ?k3 ?k4 ?k5 ?kK ?kl ?ki ?kn ?ku ?kx ?kb ?kr ?kd ?kuu ?kR)
  (case k1 => first | k_asm | fail "B")
  (case k2 => first | k_asm | fail "F")
  (case k3 => first | k_asm | fail "K")
  (case k4 => first | k_asm | fail "N")
  (case k5 => first | k_asm | fail "T")
  (case kK => first | exact rfl | assumption)
  (case kl => first | k_asm | fail "list")
  (case ki => first | assumption | fail "ints")
  (case kn => first | assumption | omega)
  (case ku => (repeat (first | exact IntsAre.nil | refine IntsAre.cons _ _ ?_)))
  (case kx => rfl)
  (case kb => decide)
  (case kr => k_all)
  (case kd => ktr_room)
  (case kuu => ktr_units)
  intro _ _ _ _ _ _ _ _ _ _ _ _ _ _ _ _ _ _ _ _ _ _ _ _ _ _ _ _ _ _ _
  (try dsimp only); (try k_fold)
  k_steps
  rename_i lp_7 hp_19 l1_11 x0_0 x1_0 x2_0 x3_0 x4_0 x5_0 x6_0 x7_0 x8_0 x9_0 x10_0 x11_0 x12_0 t0_0 t1_0 t2_0 t3_0 t4_0 t5_0 t6_0 t7_0 t8_0 t9_0 t10_0 t11_0 t12_0 h9_0 tk9_0 hb9_0 hp_18 op_5 dp_5 t_0 hp_17 lp_6 hp_16 l1_10 hp_15 op_4 dp_4 tk_3 lp_5 hp_14 l1_9 hp_13 op_3 dp_3 tk_2 lp_4 hp_12 l1_8 hp_11 op_2 dp_2 tk_1 lp_3 hp_10 l1_7 Dp_3 hp_9 l1_6 lp_2 hp_8 l1_5 Dp_2 hp_7 l1_4 Dp_1 hp_6 l1_3 lp_1 hp_5 l1_2 Dp_0 hp_4 l1_1 hp_3 op_1 dp_1 tk_0 lp_0 hp_2 l1_0 hp_1 hp_0 op_0 Fp_0 Np_0 dp_0
  refine' hret x0_0 x1_0 x2_0 x3_0 x4_0 x5_0 x6_0 x7_0 x8_0 x9_0 x10_0 x11_0 x12_0 t0_0 t1_0 t2_0 t3_0 t4_0 t5_0 t6_0 t7_0 t8_0 t9_0 t10_0 t11_0 t12_0 _ _ _ _ _ lp_0 Dp_0 lp_4 lp_5 lp_6 lp_7 ?sgs ?ens ?ses ?wos op_5 op_4 op_3 op_2 op_1 op_0 o7 _ _ _ hb9_0 ?e1 ?e2 ?e3 ?e4 rfl rfl Fp_0 (News.perm Np_0 ?hN) dp_5 dp_4 dp_3 dp_2 dp_1 dp_0 d7 (by refine ⟨?_, ?_, ?_, ?_, ?_, ?_⟩ <;> first | walk_at "PICK" | omega)
  case hN => exact SubL.mem (by k_subL)
  all_goals repeat constructor
end Mine
end
local macro_rules | `(tactic| walk_at "subscriptTail") => `(tactic| (k_here; (with_reducible show wpAny _ _ (subscriptTail _ _ (Value.ref _) (Value.int _ _)) _ _ _); ktb_letter; k_dflt (refine' KTb.item_list ?ktbl ?ktbw ?ktb0 ?ktb1 ?ktbf ?_; (case ktbl => exact News.isList (by k_asm) (by k_mem)); (case ktbw => assumption); (case ktb0 => ktb_idx); (case ktb1 => (simp only [signsL, endsL, sentL]; ktb_idx)); (case ktbf => ktb_idx)); intro _ ktbLt; clear ktbLt))
local macro_rules | `(tactic| walk_at "exec Assign cons ListComp") => `(tactic| (k_here; (with_reducible show wpAny _ _ (exec (Stmt.Assign _ (Expr.ListComp _ [⟨Expr.Name _ _, _, [], 0⟩] _ _) _) _) _ _ _); k_dflt (refine LCg.Assign_ListComp_U (F₀ := by k_asm) (by rfl) (by with_unfolding_all rfl) (by with_unfolding_all rfl) (by decide) (by rfl) (by decide) (by rfl) (by rfl) (by rfl) ?_)))
local macro_rules | `(tactic| walk_at "exec Assign cons ListComp") => `(tactic| (k_here; (with_reducible show wpAny _ _ (exec (Stmt.Assign _ (Expr.ListComp _ [⟨Expr.Name _ _, Expr.Tuple _ _ _, [], 0⟩] _ _) _) _) _ _ _); k_dflt (refine assign_comp_tup (F₀ := by k_asm) (by rfl) (by with_unfolding_all rfl) (by with_unfolding_all rfl) (by decide) (by rfl) (by decide) (by rfl) (by rfl) (by rfl) ?_)))
local macro_rules | `(tactic| walk_at "eval ListComp") => `(tactic| (k_here; (with_reducible show wpAny _ _ (eval (Expr.ListComp _ [⟨Expr.Name _ _, _, [], 0⟩] _ _) _) _ _ _); k_dflt (refine LCg.ListComp_U (F₀ := by k_asm) (by with_unfolding_all rfl) (by decide) (by rfl) (by decide) (by rfl) ?_)))
local macro_rules | `(tactic| walk_at "CompSrcU") => `(tactic| (k_here; k_dflt (refine CompSrcU.intro (by rfl) (by k_asm) (by k_asm) (by k_mem) (by first | size_fits | exact Nat.le_of_ble_eq_true rfl) ?_; intro g')))
local macro_rules | `(tactic| walk_at "CompSrc") => `(tactic| (k_here; k_dflt (refine LCg.CompSrc.ledger (by rfl) (by k_asm) (by k_asm) (by k_mem) (by first | size_fits | exact Nat.le_of_ble_eq_true rfl) ?_; intro g')))
local macro_rules | `(tactic| walk_at "CompRest") => `(tactic| (refine Held.out ?_))
local macro_rules | `(tactic| walk_at "CompEnd") => `(tactic| (refine Held.out ?_))
local macro_rules | `(tactic| walk_at "FinE") => `(tactic| ((unfold LCg.FinE); intro D' h' tk' F' N' o1'; (try simp only [List.nil_append, List.cons_append] at N'); (try dsimp only)))
local macro_rules | `(tactic| walk_at "FinA") => `(tactic| ((unfold LCg.FinA); intro D' h' tk' F' N' o1'; (try simp only [List.nil_append, List.cons_append] at N'); (try dsimp only)))
section
-- SegB1
example : True := by
  w_top off
  trivial
open PySem PySem.W PyProof.Rows PySem.Spec
namespace Mine
theorem peel2 {m : Str → Option Value} {x x' : Str} {v v' : Value} (h : m x = some v) (h' : m x' = some v') : m = fun y => if y = x then some v else if y = x' then some v' else m y := by
  funext y
  by_cases e : y = x
  · subst e; rw [if_pos rfl, h]
  · rw [if_neg e]
    by_cases e' : y = x'
    · subst e'; rw [if_pos rfl, h']
    · rw [if_neg e']
theorem m8 (x : Int) : 0 ≤ x.fmod 8 ∧ x.fmod 8 < 8 := by
  rw [Int.fmod_eq_emod_of_nonneg _ (by decide)]
  exact ⟨Int.emod_nonneg _ (by decide), Int.emod_lt_of_pos _ (by decide)⟩
theorem pick4 {a b c d : Int} {ta tb tc td : Tok} {i n : Nat} {v : Value} (hi : i < n) (hv : (#[.int a ta, .int b tb, .int c tc, .int d td] : Array Value)[i]? = some v) :
    ∃ k t, v = .int k t ∧ [a.fmod 8, b.fmod 8, c.fmod 8, d.fmod 8].getD i 0 = k.fmod 8 := by
  have h4 : i < 4 := by
    rcases Nat.lt_or_ge i 4 with h | h
    · exact h
    · rw [Array.getElem?_eq_none (by simpa using h)] at hv; cases hv
  rcases i with _ | _ | _ | _ | i
  · cases hv; exact ⟨_, _, rfl, rfl⟩
  · cases hv; exact ⟨_, _, rfl, rfl⟩
  · cases hv; exact ⟨_, _, rfl, rfl⟩
  · cases hv; exact ⟨_, _, rfl, rfl⟩
  · omega
set_option maxRecDepth 100000 in
set_option maxHeartbeats 8000000 in
theorem segB1 (w : World) (mean : ExcName → Option Value) (mg mb : Str → Option Value) :
    ∀ (h₀ : Heap) (L fa : Nat) (cd : Value) (m : Str → Option Value) (s : Shared) (Q : Flow → Shared → Prop) (E : Value → Shared → Prop)
    (x0 x1 x2 x3 x4 x5 x6 x7 x8 x9 x10 x11 x12 : Int) (t0 t1 t2 t3 t4 t5 t6 t7 t8 t9 t10 t11 t12 tf tt u0 u1 u2 : Tok) (mk se en wo sg ce : Nat) (sgs ens ses wos : List Value) (q1 q2 q3 q4 q5 q6 q7 : Obj),
    Below callerA h₀ [] h₀ → Fr h₀ L s.heap m → (hd.heap_1 w.params).In h₀ →
    News h₀ L s.heap [(mk, listOf #[.int (x0.fmod 6) u0, .int ((x0.fdiv 6).fmod 6) u1, .int ((x0.fdiv 36).fmod 7) u2] 0), (se, listOf ses.toArray 0), (en, listOf ens.toArray 0), (wo, listOf wos.toArray 0), (sg, listOf sgs.toArray 0), (ce, listOf #[.int x0 t0, .int x1 t1, .int x2 t2, .int x3 t3, .int x4 t4, .int x5 t5, .int x6 t6, .int x7 t7, .int x8 t8, .int x9 t9, .int x10 t10, .int x11 t11, .int x12 t12] 0), (L + 1 + 1 + 1 + 1 + 1 + 1 + 1, q7), (L + 1 + 1 + 1 + 1 + 1 + 1, q6), (L + 1 + 1 + 1 + 1 + 1, q5), (L + 1 + 1 + 1 + 1, q4), (L + 1 + 1 + 1, q3), (L + 1 + 1, q2), (L + 1, q1)] →
    Top hd.view_1 (looseW hd.view_1 loose3) mean mg mb h₀ →
    (0 ≤ x0 ∧ x0 ≤ 10000000000) ∧ (0 ≤ x1 ∧ x1 ≤ 10000000000) ∧ (0 ≤ x2 ∧ x2 ≤ 10000000000) ∧ (0 ≤ x3 ∧ x3 ≤ 10000000000) ∧ (0 ≤ x4 ∧ x4 ≤ 10000000000) ∧ (0 ≤ x5 ∧ x5 ≤ 10000000000) ∧ (0 ≤ x6 ∧ x6 ≤ 10000000000) ∧ (0 ≤ x7 ∧ x7 ≤ 10000000000) ∧ (0 ≤ x8 ∧ x8 ≤ 10000000000) ∧ (0 ≤ x9 ∧ x9 ≤ 10000000000) ∧ (0 ≤ x10 ∧ x10 ≤ 10000000000) ∧ (0 ≤ x11 ∧ x11 ≤ 10000000000) ∧ (0 ≤ x12 ∧ x12 ≤ 10000000000) → StrsAre sgs signsL → StrsAre ens endsL → StrsAre ses sentL → IntsAre wos worthL →
    m (Str.ofString "form") = some (.int x0 tf) → m (Str.ofString "marks") = some (.ref mk) →
    q1.data = .cell (some (.ref ce)) → q2.data = .cell (some (.ref sg)) → q3.data = .cell (some (.ref wo)) → q4.data = .cell (some (.ref en)) → q5.data = .cell (some (.ref se)) → q6.data = .cell (some (.int (1 + (x0.fdiv 252).fmod 3) tt)) → q7.data = .cell none →
    L + 1 + 1 + 1 + 1 + 1 + 1 + 1 < ce ∧ ce < sg ∧ sg < wo ∧ wo < en ∧ en < se ∧ se < mk →
    (∀ (a1 a2 a3 a4 a5 a6 a7 a8 a9 a10 a11 a12 : Int) (zs1 zs2 zs3 : List Value) (dr e1 e2 e3 : Nat) (m' : Str → Option Value) (h' : Heap) (tk' : Nat),
      (0 ≤ a1 ∧ a1 < 8) ∧ (0 ≤ a2 ∧ a2 < 8) ∧ (0 ≤ a3 ∧ a3 < 8) ∧ (0 ≤ a4 ∧ a4 < 8) ∧ (0 ≤ a5 ∧ a5 < 8) ∧ (0 ≤ a6 ∧ a6 < 8) ∧ (0 ≤ a7 ∧ a7 < 8) ∧ (0 ≤ a8 ∧ a8 < 8) ∧ (0 ≤ a9 ∧ a9 < 8) ∧ (0 ≤ a10 ∧ a10 < 8) ∧ (0 ≤ a11 ∧ a11 < 8) ∧ (0 ≤ a12 ∧ a12 < 8) → IntsAre zs1 [a1, a2, a3, a4] → IntsAre zs2 [a5, a6, a7, a8] → IntsAre zs3 [a9, a10, a11, a12] →
      m' (Str.ofString "form") = some (.int x0 tf) → m' (Str.ofString "marks") = some (.ref mk) → m' (Str.ofString "drawn") = some (.ref dr) → Fr h₀ L h' m' →
      News h₀ L h' [(dr, LCg.lst [.ref e1, .ref e2, .ref e3]), (e3, LCg.lst zs3), (e2, LCg.lst zs2), (e1, LCg.lst zs1), (mk, listOf #[.int (x0.fmod 6) u0, .int ((x0.fdiv 6).fmod 6) u1, .int ((x0.fdiv 36).fmod 7) u2] 0), (se, listOf ses.toArray 0), (en, listOf ens.toArray 0), (wo, listOf wos.toArray 0), (sg, listOf sgs.toArray 0), (L + 1 + 1 + 1 + 1 + 1 + 1 + 1, q7), (L + 1 + 1 + 1 + 1 + 1 + 1, q6), (L + 1 + 1 + 1 + 1 + 1, q5), (L + 1 + 1 + 1 + 1, q4), (L + 1 + 1 + 1, q3), (L + 1 + 1, q2), (L + 1, q1)] → Q .next { s with heap := h', toks := tk' }) →
    wpAny (model PySem.Challenge.rw_st0008_01.row.prog w) (callerA.deeper (lawEnv L fa cd)) (execs ((lawBody.drop 8).take 1) (lawEnv L fa cd)) Q E s := by
  k_fill
  intro h₀ L fa cd m s Q E x0 x1 x2 x3 x4 x5 x6 x7 x8 x9 x10 x11 x12 t0 t1 t2 t3 t4 t5 t6 t7 t8 t9 t10 t11 t12 tf tt u0 u1 u2 mk se en wo sg ce sgs ens ses wos q1 q2 q3 q4 q5 q6 q7 B F X N T hb hsg hen hse hwo hm1 hm2 d1 d2 d3 d4 d5 d6 d7 hord hret
  rw [peel2 hm1 hm2] at F
  show wpAny _ _ (execs (_ :: []) _) _ _ _
  k_steps
  refine Held.mk ?_
  refine LCg.CompRest.succ ?_
  intro v_1 I_1 oI_1 C_1 oC_1 D_1 m_1 h_1 tk_1 E_1 hv_1 hC_1 hx_1 F_1 N_1 off_1 ne_1
  replace ne_1 := Hid.mk ne_1
  lcg_open hv_1
  k_steps
  refine Held.mk ?_
  refine compRest_pure (fun i y => ∃ t : Tok, y = Value.int ([x1.fmod 8, x2.fmod 8, x3.fmod 8, x4.fmod 8].getD i 0) t) (Or.inr ⟨_, by k_mem, rfl, _, rfl⟩) ?_ ?_
  · intro i ys hi v I oI C oC D mm h tk E' hv hC hx F N
    obtain ⟨c, t, rfl, hc⟩ := pick4 hi hv
    k_steps
    exact ⟨_, _, rfl, by k_asm, by k_asm, _, by rw [hc]⟩
  intro zs_1 hl_1 hR_1
  have hi_1 := ints_pt (zs := [x1.fmod 8, x2.fmod 8, x3.fmod 8, x4.fmod 8]) hl_1 hR_1
  clear hl_1 hR_1
  unfold LCg.FinE
  intro d_1 hh_1 tkk_1 FF_1 NN_1 oo_1
  k_steps
  refine Held.mk ?_
  refine LCg.CompEnd.intro FF_1 NN_1 ((d_1, LCg.lst zs_1) :: _) (by lcg_sub) ⟨⟨(off1_mem oo_1 (I_1, oI_1) (by k_mem)).symm, (off1_mem oo_1 (C_1, oC_1) (by k_mem)).symm, (off1_mem oo_1 (D_1, LCg.lst _) (by k_mem)).symm⟩, off_1⟩ ⟨_, by k_mem, rfl, _, rfl⟩ ?_
  clear oo_1 NN_1 FF_1 ne_1 off_1
  refine LCg.CompRest.succ ?_
  intro v_2 I_2 oI_2 C_2 oC_2 D_2 m_2 h_2 tk_2 E_2 hv_2 hC_2 hx_2 F_2 N_2 off_2 ne_2
  replace ne_2 := Hid.mk ne_2
  lcg_open hv_2
  k_steps
  refine Held.mk ?_
  refine compRest_pure (fun i y => ∃ t : Tok, y = Value.int ([x5.fmod 8, x6.fmod 8, x7.fmod 8, x8.fmod 8].getD i 0) t) (Or.inr ⟨_, by k_mem, rfl, _, rfl⟩) ?_ ?_
  · intro i ys hi v I oI C oC D mm h tk E' hv hC hx F N
    obtain ⟨c, t, rfl, hc⟩ := pick4 hi hv
    k_steps
    exact ⟨_, _, rfl, by k_asm, by k_asm, _, by rw [hc]⟩
  intro zs_2 hl_2 hR_2
  have hi_2 := ints_pt (zs := [x5.fmod 8, x6.fmod 8, x7.fmod 8, x8.fmod 8]) hl_2 hR_2
  clear hl_2 hR_2
  unfold LCg.FinE
  intro d_2 hh_2 tkk_2 FF_2 NN_2 oo_2
  k_steps
  refine Held.mk ?_
  refine LCg.CompEnd.intro FF_2 NN_2 ((d_2, LCg.lst zs_2) :: _) (by lcg_sub) ⟨⟨(off1_mem oo_2 (I_2, oI_2) (by k_mem)).symm, (off1_mem oo_2 (C_2, oC_2) (by k_mem)).symm, (off1_mem oo_2 (D_2, LCg.lst _) (by k_mem)).symm⟩, off_2⟩ ⟨_, by k_mem, rfl, _, rfl⟩ ?_
  clear oo_2 NN_2 FF_2 ne_2 off_2
  refine LCg.CompRest.succ ?_
  intro v_3 I_3 oI_3 C_3 oC_3 D_3 m_3 h_3 tk_3 E_3 hv_3 hC_3 hx_3 F_3 N_3 off_3 ne_3
  replace ne_3 := Hid.mk ne_3
  lcg_open hv_3
  k_steps
  refine Held.mk ?_
  refine compRest_pure (fun i y => ∃ t : Tok, y = Value.int ([x9.fmod 8, x10.fmod 8, x11.fmod 8, x12.fmod 8].getD i 0) t) (Or.inr ⟨_, by k_mem, rfl, _, rfl⟩) ?_ ?_
  · intro i ys hi v I oI C oC D mm h tk E' hv hC hx F N
    obtain ⟨c, t, rfl, hc⟩ := pick4 hi hv
    k_steps
    exact ⟨_, _, rfl, by k_asm, by k_asm, _, by rw [hc]⟩
  intro zs_3 hl_3 hR_3
  have hi_3 := ints_pt (zs := [x9.fmod 8, x10.fmod 8, x11.fmod 8, x12.fmod 8]) hl_3 hR_3
  clear hl_3 hR_3
  unfold LCg.FinE
  intro d_3 hh_3 tkk_3 FF_3 NN_3 oo_3
  k_steps
  refine Held.mk ?_
  refine LCg.CompEnd.intro FF_3 NN_3 ((d_3, LCg.lst zs_3) :: _) (by lcg_sub) ⟨⟨(off1_mem oo_3 (I_3, oI_3) (by k_mem)).symm, (off1_mem oo_3 (C_3, oC_3) (by k_mem)).symm, (off1_mem oo_3 (D_3, LCg.lst _) (by k_mem)).symm⟩, off_3⟩ ⟨_, by k_mem, rfl, _, rfl⟩ ?_
  clear oo_3 NN_3 FF_3 ne_3 off_3
  refine LCg.CompRest.zero ?_
  k_steps
  rename Fr _ _ _ _ => FZ
  rename News _ _ _ _ => NZ
  refine hret (x1.fmod 8) (x2.fmod 8) (x3.fmod 8) (x4.fmod 8) (x5.fmod 8) (x6.fmod 8) (x7.fmod 8) (x8.fmod 8) (x9.fmod 8) (x10.fmod 8) (x11.fmod 8) (x12.fmod 8) zs_1 zs_2 zs_3 _ d_1 d_2 d_3 _ _ _ ?_ hi_1 hi_2 hi_3 rfl rfl rfl FZ (News.perm NZ (SubL.mem (by k_subL)))
  exact ⟨m8 x1, m8 x2, m8 x3, m8 x4, m8 x5, m8 x6, m8 x7, m8 x8, m8 x9, m8 x10, m8 x11, m8 x12⟩
end Mine
end
local macro_rules | `(tactic| walk_at "eval ListComp") => `(tactic| (k_here; (with_reducible show wpAny _ _ (eval (Expr.ListComp _ [⟨Expr.Tuple _ _ _, _, [], 0⟩] _ _) _) _ _ _); k_dflt (refine zip_ListComp (F₀ := by k_asm) (by with_unfolding_all rfl) (by rfl) (by decide) ?_)))
local macro_rules | `(tactic| walk_at "call type:zip") => `(tactic| (refine Held.out ?_))
local macro_rules | `(tactic| ktr_step) => `(tactic| repeat' (first | (k_unfold; (try dsimp only)) | walk1 | (dsimp only; walk1) | fail "no step"))
section
-- SegB2
example : True := by
  w_top off
  trivial
open PySem PySem.W PyProof.Rows PySem.Spec
namespace Mine
@[irreducible] noncomputable def sgT (k : Int) : Str := signsL.getD k.toNat Str.empty
theorem sgT_def (k : Int) : sgT k = signsL.getD k.toNat Str.empty := by unfold sgT; rfl
@[irreducible] noncomputable def rowT (a b c d : Int) : Str := Txt.join (Str.ofString "") [sgT a, sgT b, sgT c, sgT d]
theorem rowT_def (a b c d : Int) : rowT a b c d = Txt.join (Str.ofString "") [sgT a, sgT b, sgT c, sgT d] := by unfold rowT; rfl
theorem sgT_len (k : Int) : (sgT k).length ≤ 3 := by
  rw [sgT_def, List.getD_eq_getElem?_getD]
  cases h : signsL[k.toNat]? with
  | none => exact Nat.zero_le _
  | some x =>
    have hm := List.mem_of_getElem? h
    simp only [signsL, List.mem_cons, List.not_mem_nil, or_false] at hm
    rcases hm with rfl | rfl | rfl | rfl | rfl | rfl | rfl | rfl <;> decide
@[irreducible] noncomputable def endT (k : Int) : Str := endsL.getD k.toNat Str.empty
theorem endT_def (k : Int) : endT k = endsL.getD k.toNat Str.empty := by unfold endT; rfl
theorem endT_len (k : Int) : (endT k).length ≤ 2 := by
  rw [endT_def, List.getD_eq_getElem?_getD]
  cases h : endsL[k.toNat]? with
  | none => exact Nat.zero_le _
  | some x =>
    have hm := List.mem_of_getElem? h
    simp only [endsL, List.mem_cons, List.not_mem_nil, or_false] at hm
    rcases hm with rfl | rfl | rfl | rfl | rfl | rfl | rfl <;> decide
theorem rowT_len (a b c d : Int) : (rowT a b c d).length ≤ 12 := by
  have h1 := sgT_len a
  have h2 := sgT_len b
  have h3 := sgT_len c
  have h4 := sgT_len d
  rw [rowT_def]
  show (Builtin.Str.glued _ _).length ≤ 12
  rw [PySem.size_glued]
  have h5 : (Str.ofString "").length = 0 := by decide
  simp only [List.map_cons, List.map_nil, List.sum_cons, List.sum_nil, List.length_cons, List.length_nil, h5]
  omega
@[irreducible] noncomputable def mailT (x0 a1 a2 a3 a4 a5 a6 a7 a8 a9 a10 a11 a12 : Int) : Str := Txt.join (Str.ofString "") [rowT a1 a2 a3 a4 ++ endT (x0.fmod 6), rowT a5 a6 a7 a8 ++ endT ((x0.fdiv 6).fmod 6), rowT a9 a10 a11 a12 ++ endT ((x0.fdiv 36).fmod 7)]
theorem mailT_def (x0 a1 a2 a3 a4 a5 a6 a7 a8 a9 a10 a11 a12 : Int) : mailT x0 a1 a2 a3 a4 a5 a6 a7 a8 a9 a10 a11 a12 = Txt.join (Str.ofString "") [rowT a1 a2 a3 a4 ++ endT (x0.fmod 6), rowT a5 a6 a7 a8 ++ endT ((x0.fdiv 6).fmod 6), rowT a9 a10 a11 a12 ++ endT ((x0.fdiv 36).fmod 7)] := by unfold mailT; rfl
theorem join3_ok (a b c d a' b' c' d' a'' b'' c'' d'' p q r : Int) : (([rowT a b c d ++ endT p, rowT a' b' c' d' ++ endT q, rowT a'' b'' c'' d'' ++ endT r]).map (·.length)).sum + [rowT a b c d ++ endT p, rowT a' b' c' d' ++ endT q, rowT a'' b'' c'' d'' ++ endT r].length * (Str.ofString "").length ≤ 16777216 := by
  have h1 := rowT_len a b c d
  have h2 := rowT_len a' b' c' d'
  have h3 := rowT_len a'' b'' c'' d''
  have h4 := endT_len p
  have h6 := endT_len q
  have h7 := endT_len r
  have h5 : (Str.ofString "").length = 0 := by decide
  simp only [List.map_cons, List.map_nil, List.sum_cons, List.sum_nil, List.length_cons, List.length_nil, h5, Str.length_append]
  omega
theorem pickRM {rs : List Value} {A B C : Str} {p q r : Int} {tp tq tr : Tok} {i : Nat} {x y : Value} (h : StrsAre rs [A, B, C]) (hA : A.length ≤ 100) (hB : B.length ≤ 100) (hC : C.length ≤ 100) (hp : 0 ≤ p ∧ p < 7) (hq : 0 ≤ q ∧ q < 7) (hr : 0 ≤ r ∧ r < 7)
    (hv : rs.toArray[i]? = some x ∧ (#[.int p tp, .int q tq, .int r tr] : Array Value)[i]? = some y) :
    ∃ X k t t', x = .str X t ∧ y = .int k t' ∧ X.length ≤ 100 ∧ (0 ≤ k ∧ k < 7) ∧ (i = 0 → X = A ∧ k = p) ∧ (i = 1 → X = B ∧ k = q) ∧ (i = 2 → X = C ∧ k = r) ∧ i < 3 := by
  have hv1 : rs[i]? = some x := by simpa using hv.1
  have key : ∀ Y, [A, B, C][i]? = some Y → ∃ t, x = .str Y t := fun Y hY => by
    obtain ⟨t, e⟩ := h.at hY
    exact ⟨t, Option.some.inj (hv1.symm.trans e)⟩
  have h2 := hv.2
  rcases i with _ | _ | _ | i
  · obtain ⟨t, e⟩ := key A rfl; cases h2; exact ⟨A, p, t, _, e, rfl, hA, hp, fun _ => ⟨rfl, rfl⟩, fun e => by omega, fun e => by omega, by omega⟩
  · obtain ⟨t, e⟩ := key B rfl; cases h2; exact ⟨B, q, t, _, e, rfl, hB, hq, fun e => by omega, fun _ => ⟨rfl, rfl⟩, fun e => by omega, by omega⟩
  · obtain ⟨t, e⟩ := key C rfl; cases h2; exact ⟨C, r, t, _, e, rfl, hC, hr, fun e => by omega, fun e => by omega, fun _ => ⟨rfl, rfl⟩, by omega⟩
  · simp at h2
theorem pickSg {zs : List Value} {a b c d : Int} {i : Nat} {v : Value} (h : IntsAre zs [a, b, c, d]) (ha : 0 ≤ a ∧ a < 8) (hb : 0 ≤ b ∧ b < 8) (hc : 0 ≤ c ∧ c < 8) (hd : 0 ≤ d ∧ d < 8) (hv : zs.toArray[i]? = some v) :
    ∃ k t, v = .int k t ∧ (0 ≤ k ∧ k < 8) ∧ [sgT a, sgT b, sgT c, sgT d].getD i Str.empty = sgT k := by
  have hv' : zs[i]? = some v := by simpa using hv
  have hlt : i < zs.length := by
    rcases Nat.lt_or_ge i zs.length with h | h
    · exact h
    · rw [List.getElem?_eq_none h] at hv'; cases hv'
  have hl := h.length
  have h4 : i < 4 := by rw [hl] at hlt; exact hlt
  have key : ∀ k, [a, b, c, d][i]? = some k → ∃ t, v = .int k t := fun k hk => by
    obtain ⟨t, e⟩ := h.get i k hk
    exact ⟨t, Option.some.inj (hv'.symm.trans e)⟩
  rcases i with _ | _ | _ | _ | i
  · obtain ⟨t, e⟩ := key a rfl; exact ⟨a, t, e, ha, rfl⟩
  · obtain ⟨t, e⟩ := key b rfl; exact ⟨b, t, e, hb, rfl⟩
  · obtain ⟨t, e⟩ := key c rfl; exact ⟨c, t, e, hc, rfl⟩
  · obtain ⟨t, e⟩ := key d rfl; exact ⟨d, t, e, hd, rfl⟩
  · omega
theorem fm6 (x : Int) : 0 ≤ x.fmod 6 ∧ x.fmod 6 < 7 := by
  rw [Int.fmod_eq_emod_of_nonneg _ (by decide)]
  exact ⟨Int.emod_nonneg _ (by decide), Int.lt_trans (Int.emod_lt_of_pos _ (by decide)) (by decide)⟩
theorem fm7 (x : Int) : 0 ≤ x.fmod 7 ∧ x.fmod 7 < 7 := by
  rw [Int.fmod_eq_emod_of_nonneg _ (by decide)]
  exact ⟨Int.emod_nonneg _ (by decide), Int.emod_lt_of_pos _ (by decide)⟩
theorem pick3 {i : Nat} {v x y z : Value} (hv : ([x, y, z].toArray)[i]? = some v) : (i = 0 ∧ v = x) ∨ (i = 1 ∧ v = y) ∨ (i = 2 ∧ v = z) := by
  have hv' : [x, y, z][i]? = some v := by simpa using hv
  rcases i with _ | _ | _ | i
  · cases hv'; exact .inl ⟨rfl, rfl⟩
  · cases hv'; exact .inr (.inl ⟨rfl, rfl⟩)
  · cases hv'; exact .inr (.inr ⟨rfl, rfl⟩)
  · simp at hv'
theorem peel3 {m : Str → Option Value} {x x' x'' : Str} {v v' v'' : Value} (h : m x = some v) (h' : m x' = some v') (h'' : m x'' = some v'') : m = fun y => if y = x then some v else if y = x' then some v' else if y = x'' then some v'' else m y := by
  funext y
  by_cases e : y = x
  · subst e; rw [if_pos rfl, h]
  · rw [if_neg e]
    by_cases e' : y = x'
    · subst e'; rw [if_pos rfl, h']
    · rw [if_neg e']
      by_cases e'' : y = x''
      · subst e''; rw [if_pos rfl, h'']
      · rw [if_neg e'']
theorem join4_ok (a b c d : Int) : (([sgT a, sgT b, sgT c, sgT d]).map (·.length)).sum + [sgT a, sgT b, sgT c, sgT d].length * (Str.ofString "").length ≤ 16777216 := by
  have h1 := sgT_len a
  have h2 := sgT_len b
  have h3 := sgT_len c
  have h4 := sgT_len d
  have h5 : (Str.ofString "").length = 0 := by decide
  simp only [List.map_cons, List.map_nil, List.sum_cons, List.sum_nil, List.length_cons, List.length_nil, h5]
  omega
local macro_rules | `(tactic| walk_at "call builtin:str.join") => `(tactic| (k_here; (with_reducible show wpAny _ _ (call (Value.builtin "str.join") [Value.str _ _, Value.ref _]) _ _ _); k_dflt (refine' join_list ?jl ?ji ?jo ?_; (case jl => exact News.isList (by k_asm) (by k_mem)); (case ji => assumption); (case jo => lcg_sub)); intro _ _))
local macro_rules | `(tactic| lcg_sub) => `(tactic| first | exact join4_ok _ _ _ _ | exact join3_ok _ _ _ _ _ _ _ _ _ _ _ _ _ _ _)
set_option maxRecDepth 100000 in
set_option maxHeartbeats 8000000 in
theorem segB2 (w : World) (mean : ExcName → Option Value) (mg mb : Str → Option Value) :
    ∀ (h₀ : Heap) (L fa : Nat) (cd : Value) (m : Str → Option Value) (s : Shared) (Q : Flow → Shared → Prop) (E : Value → Shared → Prop)
    (x0 a1 a2 a3 a4 a5 a6 a7 a8 a9 a10 a11 a12 : Int) (tf tt u0 u1 u2 : Tok) (dr e1 e2 e3 mk se en wo sg : Nat) (zs1 zs2 zs3 sgs ens ses wos : List Value) (q1 q2 q3 q4 q5 q6 q7 : Obj),
    Below callerA h₀ [] h₀ → Fr h₀ L s.heap m → (hd.heap_1 w.params).In h₀ →
    News h₀ L s.heap [(dr, LCg.lst [.ref e1, .ref e2, .ref e3]), (e3, LCg.lst zs3), (e2, LCg.lst zs2), (e1, LCg.lst zs1), (mk, listOf #[.int (x0.fmod 6) u0, .int ((x0.fdiv 6).fmod 6) u1, .int ((x0.fdiv 36).fmod 7) u2] 0), (se, listOf ses.toArray 0), (en, listOf ens.toArray 0), (wo, listOf wos.toArray 0), (sg, listOf sgs.toArray 0), (L + 1 + 1 + 1 + 1 + 1 + 1 + 1, q7), (L + 1 + 1 + 1 + 1 + 1 + 1, q6), (L + 1 + 1 + 1 + 1 + 1, q5), (L + 1 + 1 + 1 + 1, q4), (L + 1 + 1 + 1, q3), (L + 1 + 1, q2), (L + 1, q1)] →
    Top hd.view_1 (looseW hd.view_1 loose3) mean mg mb h₀ →
    0 ≤ x0 → (0 ≤ a1 ∧ a1 < 8) ∧ (0 ≤ a2 ∧ a2 < 8) ∧ (0 ≤ a3 ∧ a3 < 8) ∧ (0 ≤ a4 ∧ a4 < 8) ∧ (0 ≤ a5 ∧ a5 < 8) ∧ (0 ≤ a6 ∧ a6 < 8) ∧ (0 ≤ a7 ∧ a7 < 8) ∧ (0 ≤ a8 ∧ a8 < 8) ∧ (0 ≤ a9 ∧ a9 < 8) ∧ (0 ≤ a10 ∧ a10 < 8) ∧ (0 ≤ a11 ∧ a11 < 8) ∧ (0 ≤ a12 ∧ a12 < 8) → IntsAre zs1 [a1, a2, a3, a4] → IntsAre zs2 [a5, a6, a7, a8] → IntsAre zs3 [a9, a10, a11, a12] →
    StrsAre sgs signsL → StrsAre ens endsL → StrsAre ses sentL → IntsAre wos worthL →
    m (Str.ofString "form") = some (.int x0 tf) → m (Str.ofString "marks") = some (.ref mk) → m (Str.ofString "drawn") = some (.ref dr) →
    q2.data = .cell (some (.ref sg)) → q3.data = .cell (some (.ref wo)) → q4.data = .cell (some (.ref en)) → q5.data = .cell (some (.ref se)) → q6.data = .cell (some (.int (1 + (x0.fdiv 252).fmod 3) tt)) → q7.data = .cell none →
    (∀ (rs : List Value) (ro : Nat) (tm : Tok) (m' : Str → Option Value) (h' : Heap) (tk' : Nat), StrsAre rs [rowT a1 a2 a3 a4, rowT a5 a6 a7 a8, rowT a9 a10 a11 a12] →
      m' (Str.ofString "form") = some (.int x0 tf) → m' (Str.ofString "marks") = some (.ref mk) → m' (Str.ofString "drawn") = some (.ref dr) → m' (Str.ofString "rows") = some (.ref ro) → m' (Str.ofString "mail") = some (.str (mailT x0 a1 a2 a3 a4 a5 a6 a7 a8 a9 a10 a11 a12) tm) → Fr h₀ L h' m' →
      News h₀ L h' [(ro, LCg.lst rs), (dr, LCg.lst [.ref e1, .ref e2, .ref e3]), (e3, LCg.lst zs3), (e2, LCg.lst zs2), (e1, LCg.lst zs1), (mk, listOf #[.int (x0.fmod 6) u0, .int ((x0.fdiv 6).fmod 6) u1, .int ((x0.fdiv 36).fmod 7) u2] 0), (se, listOf ses.toArray 0), (wo, listOf wos.toArray 0), (L + 1 + 1 + 1 + 1 + 1 + 1 + 1, q7), (L + 1 + 1 + 1 + 1 + 1 + 1, q6), (L + 1 + 1 + 1 + 1 + 1, q5), (L + 1 + 1 + 1 + 1, q4), (L + 1 + 1 + 1, q3), (L + 1 + 1, q2), (L + 1, q1)] → Q .next { s with heap := h', toks := tk' }) →
    wpAny (model PySem.Challenge.rw_st0008_01.row.prog w) (callerA.deeper (lawEnv L fa cd)) (execs ((lawBody.drop 9).take 2) (lawEnv L fa cd)) Q E s := by
  k_fill
  intro h₀ L fa cd m s Q E x0 a1 a2 a3 a4 a5 a6 a7 a8 a9 a10 a11 a12 tf tt u0 u1 u2 dr e1 e2 e3 mk se en wo sg zs1 zs2 zs3 sgs ens ses wos q1 q2 q3 q4 q5 q6 q7 B F X N T hx0 hb hz1 hz2 hz3 hsg hen hse hwo hm1 hm2 hm3 d2 d3 d4 d5 d6 d7 hret
  rw [peel3 hm1 hm2 hm3] at F
  show wpAny _ _ (execs (_ :: _ :: []) _) _ _ _
  ktr_step
  refine Held.mk ?_
  refine compRest_pure (fun i y => ∃ t : Tok, y = Value.str ([rowT a1 a2 a3 a4, rowT a5 a6 a7 a8, rowT a9 a10 a11 a12].getD i Str.empty) t) (Or.inr ⟨_, by k_mem, rfl, _, rfl⟩) ?_ ?_
  · intro i0 ys0 hi0 v0 I0 oI0 C0 oC0 D0 mm0 hh0 tk0 E0 hv0 hC0 hx0' F0 N0
    rcases pick3 hv0 with ⟨rfl, hv_1⟩ | ⟨rfl, hv_2⟩ | ⟨rfl, hv_3⟩
    · subst hv_1
      ktr_step
      refine Held.mk ?_
      refine compRest_pure (fun i y => ∃ t : Tok, y = Value.str ([sgT a1, sgT a2, sgT a3, sgT a4].getD i Str.empty) t) (Or.inr ⟨_, by k_mem, rfl, _, rfl⟩) ?_ ?_
      · intro i ys hi v I oI C oC D mm h tk E' hv hC hx F N
        obtain ⟨k, t, rfl, hk, he⟩ := pickSg hz1 (by omega) (by omega) (by omega) (by omega) hv
        ktr_step
        exact ⟨_, _, rfl, by k_asm, by k_asm, _, by rw [he, sgT_def]⟩
      intro zs hl hR
      have hzz := strs_pt (zs := [sgT a1, sgT a2, sgT a3, sgT a4]) (by rw [hl, List.size_toArray, IntsAre.length hz1]; rfl) hR
      ktr_step
      exact ⟨_, _, rfl, by k_asm, by (refine cb_drop (by assumption) ?_; kcj_all), _, by rw [← rowT_def]; rfl⟩
    · subst hv_2
      ktr_step
      refine Held.mk ?_
      refine compRest_pure (fun i y => ∃ t : Tok, y = Value.str ([sgT a5, sgT a6, sgT a7, sgT a8].getD i Str.empty) t) (Or.inr ⟨_, by k_mem, rfl, _, rfl⟩) ?_ ?_
      · intro i ys hi v I oI C oC D mm h tk E' hv hC hx F N
        obtain ⟨k, t, rfl, hk, he⟩ := pickSg hz2 (by omega) (by omega) (by omega) (by omega) hv
        ktr_step
        exact ⟨_, _, rfl, by k_asm, by k_asm, _, by rw [he, sgT_def]⟩
      intro zs hl hR
      have hzz := strs_pt (zs := [sgT a5, sgT a6, sgT a7, sgT a8]) (by rw [hl, List.size_toArray, IntsAre.length hz2]; rfl) hR
      ktr_step
      exact ⟨_, _, rfl, by k_asm, by (refine cb_drop (by assumption) ?_; kcj_all), _, by rw [← rowT_def]; rfl⟩
    · subst hv_3
      ktr_step
      refine Held.mk ?_
      refine compRest_pure (fun i y => ∃ t : Tok, y = Value.str ([sgT a9, sgT a10, sgT a11, sgT a12].getD i Str.empty) t) (Or.inr ⟨_, by k_mem, rfl, _, rfl⟩) ?_ ?_
      · intro i ys hi v I oI C oC D mm h tk E' hv hC hx F N
        obtain ⟨k, t, rfl, hk, he⟩ := pickSg hz3 (by omega) (by omega) (by omega) (by omega) hv
        ktr_step
        exact ⟨_, _, rfl, by k_asm, by k_asm, _, by rw [he, sgT_def]⟩
      intro zs hl hR
      have hzz := strs_pt (zs := [sgT a9, sgT a10, sgT a11, sgT a12]) (by rw [hl, List.size_toArray, IntsAre.length hz3]; rfl) hR
      ktr_step
      exact ⟨_, _, rfl, by k_asm, by (refine cb_drop (by assumption) ?_; kcj_all), _, by rw [← rowT_def]; rfl⟩
  intro rs hrl hrR
  have hrs := strs_pt (zs := [rowT a1 a2 a3 a4, rowT a5 a6 a7 a8, rowT a9 a10 a11 a12]) hrl hrR
  clear hrl hrR
  ktr_step
  refine Held.mk ?_
  have hmk1 := fm6 x0
  have hmk2 := fm6 (x0.fdiv 6)
  have hmk3 := fm7 (x0.fdiv 36)
  refine zip_call (R := fun i z => ∃ t : Tok, z = Value.str ([rowT a1 a2 a3 a4 ++ endT (x0.fmod 6), rowT a5 a6 a7 a8 ++ endT ((x0.fdiv 6).fmod 6), rowT a9 a10 a11 a12 ++ endT ((x0.fdiv 36).fmod 7)].getD i Str.empty) t) (by rfl) (by k_asm) (by k_asm) (by k_mem) (by k_mem) (by rw [List.size_toArray, hrs.length]; exact Nat.le_of_ble_eq_true rfl) (by decide) (by rfl) (by rfl) (by rfl) (by decide) ?_ ?_
  · intro g i ys hi x y C oC D m2 h tk own E' hPV hC hxa hxb F N
    obtain ⟨X, k, t, t', rfl, rfl, hX, hk, c0, c1, c2, h3⟩ := pickRM hrs (Nat.le_trans (rowT_len ..) (by decide)) (Nat.le_trans (rowT_len ..) (by decide)) (Nat.le_trans (rowT_len ..) (by decide)) hmk1 hmk2 hmk3 hPV
    simp only [List.cons_append, List.nil_append] at N
    have hEk := endT_len k
    rw [endT_def] at hEk
    ktr_step
    refine ⟨_, _, rfl, by k_asm, by k_asm, _, congrArg (fun z => Value.str z _) ?_⟩
    rw [← endT_def]
    rcases i with _ | _ | _ | i
    · obtain ⟨rfl, rfl⟩ := c0 rfl; rfl
    · obtain ⟨rfl, rfl⟩ := c1 rfl; rfl
    · obtain ⟨rfl, rfl⟩ := c2 rfl; rfl
    · omega
  intro D h' tk zs FD ND oD hlz hRz
  have hzs := strs_pt (zs := [rowT a1 a2 a3 a4 ++ endT (x0.fmod 6), rowT a5 a6 a7 a8 ++ endT ((x0.fdiv 6).fmod 6), rowT a9 a10 a11 a12 ++ endT ((x0.fdiv 36).fmod 7)]) (by rw [hlz, List.size_toArray, hrs.length]; rfl) hRz
  clear hRz hlz
  ktr_step
  rename Fr _ _ _ _ => FZ
  rename News _ _ _ _ => NZ
  rw [← mailT_def] at FZ
  exact hret rs _ _ _ _ _ hrs rfl rfl rfl rfl rfl FZ (News.perm NZ (SubL.mem (by k_subL)))
end Mine
end
local macro_rules | `(tactic| k_all) => `(tactic| assumption)
local macro_rules | `(tactic| passes_own) => `(tactic| assumption)
section
-- SegC
example : True := by
  w_top off
  trivial
open PySem PySem.W PyProof.Rows PySem.Spec
namespace Mine
theorem peel1 {m : Str → Option Value} {x : Str} {v : Value} (h : m x = some v) : m = fun y => if y = x then some v else m y := by
  funext y
  by_cases e : y = x
  · subst e; rw [if_pos rfl, h]
  · rw [if_neg e]
local macro_rules | `(tactic| walk_at "call ref") => `(tactic| (k_here; (with_reducible show wpAny _ _ (PySem.call (Value.ref 65) _ _) _ _ _); k_dflt ((refine esc_ok _ _ _ _ _ _ (by with_reducible assumption) _ _ _ _ _ _ _ _ _ _ _ _ _ _ _ _ _ _ (by k_asm) (by k_asm) (by k_asm) (by k_asm) (by k_asm) (by first | exact rfl | assumption) trivial (by ktr_room) (by ktr_units) ?_); (intro t9 h9 tk9 F9 N9); (try dsimp only); (try k_fold))))
local macro_rules | `(tactic| walk_at "call ref") => `(tactic| (k_here; (with_reducible show wpAny _ _ (PySem.call (Value.ref 48) _ _) _ _ _); k_dflt ((refine quote_ok _ _ _ _ _ _ (by with_reducible assumption) _ _ _ _ _ _ _ _ _ _ _ _ _ _ _ _ _ _ (by k_asm) (by k_asm) (by k_asm) (by k_asm) (by k_asm) (by first | exact rfl | assumption) trivial (by ktr_room) (by ktr_units) ?_); (intro t9 h9 tk9 F9 N9); (try dsimp only); (try k_fold))))
theorem unr_off2 {I : Addr} {l : List (Addr × Obj)} (h : ∀ p ∈ l, p.1 < I) : ∀ p ∈ l, p.1 ≠ I := fun p hp => Nat.ne_of_lt (h p hp)
local macro_rules | `(tactic| walk_at "UnrEnd") => `(tactic| (k_here; (rename Fr _ _ _ _ => lF'); (rename News _ _ _ _ => lN'); k_dflt (refine ⟨_, _, _, _, rfl, lF', lN', unr_off2 (by assumption), ?_⟩); clear lF' lN'))
theorem rest2 {m : Str → Option Value} {x x' : Str} {v v' : Value} {r : Option Value} (h : m x = some v) {y : Str} (hy : y ≠ x') : (if y = x' then r else if y = x then some v else if y = x' then some v' else m y) = m y := by
  rw [if_neg hy, if_neg hy]
  by_cases e : y = x
  · subst e; rw [if_pos rfl, h]
  · rw [if_neg e]
theorem rest2' {m : Str → Option Value} {x x' : Str} {v v' : Value} (h : m x = some v) {y : Str} (hy : y ≠ x') : (if y = x then some v else if y = x' then some v' else m y) = m y := by
  rw [if_neg hy]
  by_cases e : y = x
  · subst e; rw [if_pos rfl, h]
  · rw [if_neg e]
noncomputable def quoteN : Nat → Str → Str
  | 0, x => x
  | n + 1, x => quoteN n (quoteOf x)
set_option maxRecDepth 100000 in
set_option maxHeartbeats 8000000 in
theorem segC1 (w : World) (mean : ExcName → Option Value) (mg mb : Str → Option Value) :
    ∀ (h₀ : Heap) (L fa : Nat) (cd : Value) (m : Str → Option Value) (s : Shared) (Q : Flow → Shared → Prop) (E : Value → Shared → Prop) (news : List (Addr × Obj)) (x0 : Int) (M : Str) (tf tm : Tok),
    Below callerA h₀ [] h₀ → Fr h₀ L s.heap m → (hd.heap_1 w.params).In h₀ → News h₀ L s.heap news → Top hd.view_1 (looseW hd.view_1 loose3) mean mg mb h₀ →
    m (Str.ofString "form") = some (.int x0 tf) → m (Str.ofString "mail") = some (.str M tm) → M.cps.size ≤ 600 →
    (∀ (m' : Str → Option Value) (t : Tok) (h' : Heap) (tk' : Nat), m' (Str.ofString "mail") = some (.str (if (x0.fdiv 756).fmod 2 = 0 then escOf M else M) t) → (∀ y, y ≠ Str.ofString "mail" → m' y = m y) → Fr h₀ L h' m' → News h₀ L h' news → Q .next { s with heap := h', toks := tk' }) →
    wpAny (model PySem.Challenge.rw_st0008_01.row.prog w) (callerA.deeper (lawEnv L fa cd)) (execs ((lawBody.drop 11).take 1) (lawEnv L fa cd)) Q E s := by
  k_fill
  intro h₀ L fa cd m s Q E news x0 M tf tm B F X N T hm1 hm2 hM hret
  rw [peel2 hm1 hm2] at F
  show wpAny _ _ (execs (_ :: []) _) _ _ _
  k_steps
  · rename ((x0.fdiv 756).fmod 2 = 0) => hc
    rename Fr _ _ _ _ => lF
    refine' hret _ _ _ _ ?e1 ?e2 lF (by assumption)
    case e1 => rw [if_pos hc]; rfl
    case e2 => exact fun y hy => (rest2 hm1 hy)
  · rename ((x0.fdiv 756).fmod 2 ≠ 0) => hc
    rename Fr _ _ _ _ => lF
    refine' hret _ _ _ _ ?e1 ?e2 lF (by assumption)
    case e1 => rw [if_neg hc]; rfl
    case e2 => exact fun y hy => (rest2' hm1 hy)
set_option maxRecDepth 100000 in
set_option maxHeartbeats 4000000 in
theorem segC2 (w : World) (mean : ExcName → Option Value) (mg mb : Str → Option Value) :
    ∀ (h₀ : Heap) (L fa : Nat) (cd : Value) (m : Str → Option Value) (s : Shared) (Q : Flow → Shared → Prop) (E : Value → Shared → Prop) (news : List (Addr × Obj)) (q6 : Obj) (M : Str) (tm tt : Tok) (z : Int),
    Below callerA h₀ [] h₀ → Fr h₀ L s.heap m → (hd.heap_1 w.params).In h₀ → News h₀ L s.heap news → Top hd.view_1 (looseW hd.view_1 loose3) mean mg mb h₀ →
    PassesOwn (model PySem.Challenge.rw_st0008_01.row.prog w) (callerA.deeper (lawEnv L fa cd)) (lawEnv L fa cd) E → m (Str.ofString "mail") = some (.str M tm) → (L + 1 + 1 + 1 + 1 + 1 + 1, q6) ∈ news → q6.data = .cell (some (.int z tt)) → z = 1 ∨ z = 2 ∨ z = 3 → (∀ k, k < 3 → (quoteN k M).cps.size ≤ 600) →
    (∀ (m' : Str → Option Value) (t : Tok) (h' : Heap) (tk' : Nat), m' (Str.ofString "mail") = some (.str (quoteN z.toNat M) t) → (∀ y, y ≠ Str.ofString "mail" → y ≠ Str.ofString "_" → m' y = m y) → Fr h₀ L h' m' → News h₀ L h' news → Q .next { s with heap := h', toks := tk' }) →
    wpAny (model PySem.Challenge.rw_st0008_01.row.prog w) (callerA.deeper (lawEnv L fa cd)) (execs ((lawBody.drop 12).take 1) (lawEnv L fa cd)) Q E s := by
  k_fill
  intro h₀ L fa cd m s Q E news q6 M tm tt z B F X N T hE hm1 hq d6 hz hM hret
  have hM0 : M.cps.size ≤ 600 := hM 0 (by decide)
  have hM1 : (quoteOf M).cps.size ≤ 600 := hM 1 (by decide)
  have hM2 : (quoteOf (quoteOf M)).cps.size ≤ 600 := hM 2 (by decide)
  clear hM
  rw [peel1 hm1] at F
  show wpAny _ _ (execs (_ :: []) _) _ _ _
  rcases hz with rfl | rfl | rfl
  · k_steps
    (rename Fr _ _ _ _ => lF)
    refine' hret _ _ _ _ ?e11 ?e12 lF (by assumption)
    case e11 => rfl
    case e12 => exact fun y hy hy' => by simp only [if_neg hy, if_neg hy']
  · k_steps
    (rename Fr _ _ _ _ => lF)
    refine' hret _ _ _ _ ?e21 ?e22 lF (by assumption)
    case e21 => rfl
    case e22 => exact fun y hy hy' => by simp only [if_neg hy, if_neg hy']
  · k_steps
    (rename Fr _ _ _ _ => lF)
    refine' hret _ _ _ _ ?e31 ?e32 lF (by assumption)
    case e31 => rfl
    case e32 => exact fun y hy hy' => by simp only [if_neg hy, if_neg hy']
set_option maxRecDepth 100000 in
set_option maxHeartbeats 8000000 in
theorem segC3 (w : World) (mean : ExcName → Option Value) (mg mb : Str → Option Value) :
    ∀ (h₀ : Heap) (L fa : Nat) (cd : Value) (m : Str → Option Value) (s : Shared) (Q : Flow → Shared → Prop) (E : Value → Shared → Prop) (news : List (Addr × Obj)) (x0 : Int) (M : Str) (tf tm : Tok),
    Below callerA h₀ [] h₀ → Fr h₀ L s.heap m → (hd.heap_1 w.params).In h₀ → News h₀ L s.heap news → Top hd.view_1 (looseW hd.view_1 loose3) mean mg mb h₀ →
    m (Str.ofString "form") = some (.int x0 tf) → m (Str.ofString "mail") = some (.str M tm) → M.cps.size ≤ 600 →
    (∀ (m' : Str → Option Value) (t : Tok) (h' : Heap) (tk' : Nat), m' (Str.ofString "mail") = some (.str (if (x0.fdiv 756).fmod 2 = 1 then escOf M else M) t) → (∀ y, y ≠ Str.ofString "mail" → m' y = m y) → Fr h₀ L h' m' → News h₀ L h' news → Q .next { s with heap := h', toks := tk' }) →
    wpAny (model PySem.Challenge.rw_st0008_01.row.prog w) (callerA.deeper (lawEnv L fa cd)) (execs ((lawBody.drop 13).take 1) (lawEnv L fa cd)) Q E s := by
  k_fill
  intro h₀ L fa cd m s Q E news x0 M tf tm B F X N T hm1 hm2 hM hret
  rw [peel2 hm1 hm2] at F
  show wpAny _ _ (execs (_ :: []) _) _ _ _
  k_steps
  · rename ((x0.fdiv 756).fmod 2 = 1) => hc
    rename Fr _ _ _ _ => lF
    refine' hret _ _ _ _ ?e1 ?e2 lF (by assumption)
    case e1 => rw [if_pos hc]; rfl
    case e2 => exact fun y hy => (rest2 hm1 hy)
  · rename ((x0.fdiv 756).fmod 2 ≠ 1) => hc
    rename Fr _ _ _ _ => lF
    refine' hret _ _ _ _ ?e1 ?e2 lF (by assumption)
    case e1 => rw [if_neg hc]; rfl
    case e2 => exact fun y hy => (rest2' hm1 hy)
end Mine
end
local macro_rules | `(tactic| walk_at "eval Name") => `(tactic| (k_here; (with_reducible show wpAny _ _ (eval (Expr.Name _ _) (compEnvC _ _ _ _)) _ _ _); (rename News _ _ _ _ => lN'); k_dflt (refine kcf_cell lN' (by rfl) (.tail _ (.tail _ (.tail _ (by assumption)))) (by assumption) ?_)))
local macro_rules | `(tactic| walk_at "CompSrc") => `(tactic| (k_here; k_dflt (refine LCg.CompSrc.ledger (by rfl) (by k_asm) (by k_asm) (by k_mem) (by first | assumption | size_fits | exact Nat.le_of_ble_eq_true rfl) ?_; intro g')))
local macro_rules | `(tactic| walk_at "call ref") => `(tactic| (k_here; (with_reducible show wpAny _ _ (PySem.call (Value.ref 77) _ _) _ _ _); k_dflt ((refine spell_ok _ _ _ _ _ _ (by with_reducible assumption) _ _ _ _ _ _ _ _ _ _ _ _ _ _ _ _ _ _ (by k_asm) (by k_asm) (by k_asm) (by k_asm) (by k_asm) (by first | exact rfl | assumption) trivial (by ktr_room) (by ktr_units) ?_); (intro t9 h9 tk9 F9 N9); (try dsimp only); (try k_fold))))
section
-- SegD
example : True := by
  w_top off
  trivial
open PySem PySem.W PyProof.Rows PySem.Spec
namespace Mine
noncomputable def dueT (z : Int) (R : Str) : Str := (if (Txt.item R 0 == Str.ofString ".") = true then Txt.mul (Str.ofString ".") z else Str.ofString "") ++ spellOf R
theorem rest1 {m : Str → Option Value} {x : Str} {v : Value} (h : m x = some v) {y : Str} : (if y = x then some v else m y) = m y := by
  by_cases e : y = x
  · subst e; rw [if_pos rfl, h]
  · rw [if_neg e]
theorem len_lo (R : Str) : -((R.length : Nat) : Int) ≤ 0 := by omega
theorem len_pos {R : Str} (h : 0 < R.cps.size) : (0 : Int) < ((R.length : Nat) : Int) := Int.ofNat_lt.mpr h
theorem len_hi {R : Str} (h : R.cps.size ≤ 600) : R.length ≤ 16777216 := Nat.le_trans h (by decide)
theorem spellOf_len (x : Str) : (spellOf x).length ≤ 5 * x.cps.size := by
  show (Builtin.Str.glued _ _).length ≤ _
  rw [PySem.size_glued]
  have e : (Str.ofString "").length = 0 := rfl
  have h : ∀ l : List Nat, ((l.map spell1).map (·.length)).sum ≤ 5 * l.length := by
    intro l
    induction l with
    | nil => simp
    | cons a l ih =>
      have := spell_len a
      simp only [List.map_cons, List.sum_cons, List.length_cons]
      omega
  have := h x.cps.toList
  rw [Array.length_toList] at this
  rw [e, Nat.mul_zero]
  unfold spellL
  omega
theorem dots_len {z : Int} (h : 1 ≤ z ∧ z ≤ 3) : (Txt.mul (Str.ofString ".") z).length ≤ 3 := by
  have : z = 1 ∨ z = 2 ∨ z = 3 := by omega
  rcases this with rfl | rfl | rfl <;> decide
theorem pickR {rs : List Value} {A B C : Str} {i : Nat} {x : Value} (h : StrsAre rs [A, B, C]) (hA : 0 < A.cps.size ∧ A.cps.size ≤ 12) (hB : 0 < B.cps.size ∧ B.cps.size ≤ 12) (hC : 0 < C.cps.size ∧ C.cps.size ≤ 12) (hv : rs.toArray[i]? = some x) :
    ∃ X t, x = .str X t ∧ (0 < X.cps.size ∧ X.cps.size ≤ 12) ∧ [A, B, C].getD i Str.empty = X := by
  have hv1 : rs[i]? = some x := by simpa using hv
  have key : ∀ Y, [A, B, C][i]? = some Y → ∃ t, x = .str Y t := fun Y hY => by
    obtain ⟨t, e⟩ := h.at hY
    exact ⟨t, Option.some.inj (hv1.symm.trans e)⟩
  rcases i with _ | _ | _ | i
  · obtain ⟨t, e⟩ := key A rfl; exact ⟨A, t, e, hA, rfl⟩
  · obtain ⟨t, e⟩ := key B rfl; exact ⟨B, t, e, hB, rfl⟩
  · obtain ⟨t, e⟩ := key C rfl; exact ⟨C, t, e, hC, rfl⟩
  · have := List.getElem?_eq_none (l := rs) (i := i + 1 + 1 + 1) (by rw [h.length]; exact Nat.le_add_left 3 i)
    rw [this] at hv1; cases hv1
local macro_rules | `(tactic| walk_at "subscriptTail") => `(tactic| (k_here; (with_reducible show wpAny _ _ (subscriptTail _ (Expr.Constant _ _ _) (Value.str _ _) (Value.int 0 _)) _ _ _); k_dflt (refine KXi.item rfl (len_lo _) (len_pos (by assumption)) (len_hi (by assumption)) ?_); intro kxiE))
set_option maxRecDepth 100000 in
set_option maxHeartbeats 4000000 in
theorem segD1 (w : World) (mean : ExcName → Option Value) (mg mb : Str → Option Value) :
    ∀ (h₀ : Heap) (L fa : Nat) (cd : Value) (m : Str → Option Value) (s : Shared) (Q : Flow → Shared → Prop) (E : Value → Shared → Prop) (news : List (Addr × Obj)) (q6 : Obj) (tt : Tok) (z : Int) (ro : Nat) (rs : List Value) (R1 R2 R3 : Str),
    Below callerA h₀ [] h₀ → Fr h₀ L s.heap m → (hd.heap_1 w.params).In h₀ → News h₀ L s.heap news → Top hd.view_1 (looseW hd.view_1 loose3) mean mg mb h₀ →
    m (Str.ofString "rows") = some (.ref ro) → (L + 1 + 1 + 1 + 1 + 1 + 1, q6) ∈ news → q6.data = .cell (some (.int z tt)) → 1 ≤ z ∧ z ≤ 3 →
    (ro, LCg.lst rs) ∈ news → StrsAre rs [R1, R2, R3] → 0 < R1.cps.size ∧ R1.cps.size ≤ 12 → 0 < R2.cps.size ∧ R2.cps.size ≤ 12 → 0 < R3.cps.size ∧ R3.cps.size ≤ 12 →
    (∀ (ds : List Value) (du : Nat) (m' : Str → Option Value) (h' : Heap) (tk' : Nat), StrsAre ds [dueT z R1, dueT z R2, dueT z R3] → m' (Str.ofString "due") = some (.ref du) → (∀ y, y ≠ Str.ofString "due" → m' y = m y) → Fr h₀ L h' m' → News h₀ L h' ((du, LCg.lst ds) :: news) → LCg.Off1 du news → Q .next { s with heap := h', toks := tk' }) →
    wpAny (model PySem.Challenge.rw_st0008_01.row.prog w) (callerA.deeper (lawEnv L fa cd)) (execs ((lawBody.drop 14).take 1) (lawEnv L fa cd)) Q E s := by
  k_fill
  intro h₀ L fa cd m s Q E news q6 tt z ro rs R1 R2 R3 B F X N T hm1 hq d6 hz hro hrs hR1 hR2 hR3 hret
  rw [peel1 hm1] at F
  have hrl : rs.toArray.size ≤ sizeLine := by rw [List.size_toArray, hrs.length]; exact Nat.le_of_ble_eq_true rfl
  show wpAny _ _ (execs (_ :: []) _) _ _ _
  ktr_step
  refine Held.mk ?_
  refine compRest_pure (fun i y => ∃ t : Tok, y = Value.str (dueT z ([R1, R2, R3].getD i Str.empty)) t) (Or.inr ⟨_, by k_mem, rfl, _, rfl⟩) ?_ ?_
  · intro i ys hi v I oI C oC D mm h tk E' hv hC hx F N
    obtain ⟨R, t, rfl, hR, e⟩ := pickR hrs hR1 hR2 hR3 hv
    rw [e]
    have hR6 : R.cps.size ≤ 600 := by omega
    have hR0 : 0 < R.cps.size := hR.1
    have hs1 := dots_len hz
    have hs2 : (spellOf R).length ≤ 60 := Nat.le_trans (spellOf_len R) (by omega)
    have hs3 : (Str.ofString "").length ≤ 0 := by decide
    ktr_step
    · exact ⟨_, _, rfl, by k_asm, by k_asm, _, by unfold dueT; rw [if_pos (by assumption)]⟩
    · exact ⟨_, _, rfl, by k_asm, by k_asm, _, by unfold dueT; first | rw [if_neg (by assumption)] | rw [if_neg (Bool.eq_false_iff.mp (by assumption))]⟩
  intro ds hl hR
  have hds := strs_pt (zs := [dueT z R1, dueT z R2, dueT z R3]) (by rw [hl, List.size_toArray, hrs.length]; rfl) (fun i y hy => by
    obtain ⟨t, e⟩ := hR i y hy
    refine ⟨t, ?_⟩
    rw [e]
    rcases i with _ | _ | _ | i
    · rfl
    · rfl
    · rfl
    · exact absurd (List.getElem?_eq_none (by rw [hl, List.size_toArray, hrs.length]; exact Nat.le_add_left 3 i)) (by rw [hy]; exact fun h => nomatch h))
  clear hR hl
  ktr_step
  rename Fr _ _ _ _ => lF
  rename News _ _ _ _ => lN
  refine' hret ds _ _ _ _ hds ?e1 ?e2 lF lN (by assumption)
  case e1 => rfl
  case e2 => exact fun y hy => by simp only [if_neg hy]; exact rest1 hm1
end Mine
end
local macro_rules | `(tactic| walk_at "subscriptTail") => `(tactic| (k_here; (with_reducible show wpAny _ _ (subscriptTail _ (Expr.Constant _ _ _) (Value.str _ _) (Value.int 0 _)) _ _ _); k_dflt (refine KXi.item rfl (len_lo _) (len_pos (by assumption)) (len_hi (by assumption)) ?_); intro kxiE))
section
-- SegD2
example : True := by
  w_top off
  trivial
open PySem PySem.W PyProof.Rows PySem.Spec
namespace Mine
@[irreducible] noncomputable def snT (k : Int) : Str := sentL.getD k.toNat Str.empty
theorem snT_def (k : Int) : snT k = sentL.getD k.toNat Str.empty := by unfold snT; rfl
theorem snT_len (k : Int) : (snT k).length ≤ 4 := by
  rw [snT_def, List.getD_eq_getElem?_getD]
  cases h : sentL[k.toNat]? with
  | none => exact Nat.zero_le _
  | some x =>
    have hm := List.mem_of_getElem? h
    simp only [sentL, List.mem_cons, List.not_mem_nil, or_false] at hm
    rcases hm with rfl | rfl | rfl | rfl | rfl | rfl | rfl <;> decide
theorem joinS_ok {R1 R2 R3 : Str} {k0 k1 k2 : Int} (hR1 : R1.length ≤ 100) (hR2 : R2.length ≤ 100) (hR3 : R3.length ≤ 100) : (([R1 ++ snT k0, R2 ++ snT k1, R3 ++ snT k2]).map (·.length)).sum + [R1 ++ snT k0, R2 ++ snT k1, R3 ++ snT k2].length * (Str.ofString "").length ≤ 16777216 := by
  have h4 := snT_len k0
  have h6 := snT_len k1
  have h7 := snT_len k2
  have h5 : (Str.ofString "").length = 0 := by decide
  simp only [List.map_cons, List.map_nil, List.sum_cons, List.sum_nil, List.length_cons, List.length_nil, h5, Str.length_append]
  omega
local macro_rules | `(tactic| walk_at "subscriptTail") => `(tactic| (k_here; (with_reducible show wpAny _ _ (subscriptTail _ _ (Value.ref _) (Value.int _ _)) _ _ _); ktb_letter; k_dflt (refine' KTb.item_list ?ktbl ?ktbw ?ktb0 ?ktb1 ?ktbf ?_; (case ktbl => exact News.isList (by k_asm) (by k_mem)); (case ktbw => assumption); (case ktb0 => ktb_idx); (case ktb1 => (simp only [sentL]; ktb_idx)); (case ktbf => ktb_idx)); intro _ ktbLt; clear ktbLt))
local macro_rules | `(tactic| walk_at "call builtin:str.join") => `(tactic| (k_here; (with_reducible show wpAny _ _ (call (Value.builtin "str.join") [Value.str _ _, Value.ref _]) _ _ _); k_dflt (refine join_list (News.isList (by k_asm) (by k_mem)) (by assumption) (by exact joinS_ok (by assumption) (by assumption) (by assumption)) ?_); intro _ _))
local macro_rules | `(tactic| walk_at "eval Name") => `(tactic| (k_here; (with_reducible show wpAny _ _ (eval (Expr.Name _ _) (compEnvC _ _ _ _)) _ _ _); (rename News _ _ _ _ => lN'); k_dflt (refine kcf_cell lN' (by rfl) (.tail _ (.tail _ (.tail _ (.tail _ (.tail _ (.head _)))))) (by assumption) ?_)))
set_option maxRecDepth 100000 in
set_option maxHeartbeats 4000000 in
theorem segD2 (w : World) (mean : ExcName → Option Value) (mg mb : Str → Option Value) :
    ∀ (h₀ : Heap) (L fa : Nat) (cd : Value) (m : Str → Option Value) (s : Shared) (Q : Flow → Shared → Prop) (E : Value → Shared → Prop) (news : List (Addr × Obj)) (q5 : Obj) (tm u0 u1 u2 : Tok) (k0 k1 k2 : Int) (du mk se : Nat) (ds ses : List Value) (M R1 R2 R3 : Str),
    Below callerA h₀ [] h₀ → Fr h₀ L s.heap m → (hd.heap_1 w.params).In h₀ → News h₀ L s.heap ((du, LCg.lst ds) :: (mk, listOf #[.int k0 u0, .int k1 u1, .int k2 u2] 0) :: (se, listOf ses.toArray 0) :: (L + 1 + 1 + 1 + 1 + 1, q5) :: news) → Top hd.view_1 (looseW hd.view_1 loose3) mean mg mb h₀ →
    m (Str.ofString "mail") = some (.str M tm) → m (Str.ofString "due") = some (.ref du) → m (Str.ofString "marks") = some (.ref mk) → q5.data = .cell (some (.ref se)) →
    StrsAre ds [R1, R2, R3] → StrsAre ses sentL → (0 ≤ k0 ∧ k0 < 7) → (0 ≤ k1 ∧ k1 < 7) → (0 ≤ k2 ∧ k2 < 7) → R1.length ≤ 100 → R2.length ≤ 100 → R3.length ≤ 100 → M = Txt.join (Str.ofString "") [R1 ++ snT k0, R2 ++ snT k1, R3 ++ snT k2] →
    (∀ (h' : Heap) (tk' : Nat), Fr h₀ L h' m → News h₀ L h' ((du, LCg.lst ds) :: (mk, listOf #[.int k0 u0, .int k1 u1, .int k2 u2] 0) :: (se, listOf ses.toArray 0) :: (L + 1 + 1 + 1 + 1 + 1, q5) :: news) → Q .next { s with heap := h', toks := tk' }) →
    wpAny (model PySem.Challenge.rw_st0008_01.row.prog w) (callerA.deeper (lawEnv L fa cd)) (execs ((lawBody.drop 15).take 1) (lawEnv L fa cd)) Q E s := by
  k_fill
  intro h₀ L fa cd m s Q E news q5 tm u0 u1 u2 k0 k1 k2 du mk se ds ses M R1 R2 R3 B F X N T hm1 hm2 hm3 d5 hds hse hk0 hk1 hk2 hR1 hR2 hR3 hM hret
  rw [peel3 hm1 hm2 hm3] at F
  show wpAny _ _ (execs (_ :: []) _) _ _ _
  ktr_step
  refine Held.mk ?_
  refine zip_call (R := fun i z => ∃ t : Tok, z = Value.str ([R1 ++ snT k0, R2 ++ snT k1, R3 ++ snT k2].getD i Str.empty) t) (by rfl) (by k_asm) (by k_asm) (by k_mem) (by k_mem) (by rw [List.size_toArray, hds.length]; exact Nat.le_of_ble_eq_true rfl) (by decide) (by rfl) (by rfl) (by rfl) (by decide) ?_ ?_
  · intro g i ys hi x y C oC D m2 h tk own E' hPV hC hxa hxb F N
    obtain ⟨X, k, t, t', rfl, rfl, hX, hk, c0, c1, c2, h3⟩ := pickRM hds hR1 hR2 hR3 hk0 hk1 hk2 hPV
    simp only [List.cons_append, List.nil_append] at N
    have hEk := snT_len k
    rw [snT_def] at hEk
    ktr_step
    refine ⟨_, _, rfl, by k_asm, by k_asm, _, congrArg (fun z => Value.str z _) ?_⟩
    rw [← snT_def]
    rcases i with _ | _ | _ | i
    · obtain ⟨rfl, rfl⟩ := c0 rfl; rfl
    · obtain ⟨rfl, rfl⟩ := c1 rfl; rfl
    · obtain ⟨rfl, rfl⟩ := c2 rfl; rfl
    · omega
  intro D h' tk zs FD ND oD hlz hRz
  have hzs := strs_pt (zs := [R1 ++ snT k0, R2 ++ snT k1, R3 ++ snT k2]) (by rw [hlz, List.size_toArray, hds.length]; rfl) hRz
  clear hRz hlz
  ktr_step
  · exact absurd hM (by first | assumption | (intro h; simp_all))
  · rename Fr _ _ _ _ => lF
    rename News _ _ _ _ => lN
    rw [← peel3 hm1 hm2 hm3] at lF
    exact hret _ _ lF (fun p hp => lN p (List.mem_cons_of_mem _ hp))
end Mine
end
section
-- SegE
example : True := by
  w_top off
  trivial
open PySem PySem.W PyProof.Rows PySem.Spec
namespace Mine
section
variable {prog : Program} {w : World} {A : Around} {E : Value → Shared → Prop} {s : Shared} {h₀ : Heap} {L : Addr} {m : Str → Option Value} {env : Env}
theorem strs_snoc {ys : List Value} {zs : List Str} (h : StrsAre ys zs) (k : Str) (t : Tok) : StrsAre (ys ++ [.str k t]) (zs ++ [k]) := by
  induction h with
  | nil => exact .cons k t .nil
  | cons s t' _ ih => exact .cons s t' ih
/-- a list comprehension over texts with a test, its turns alike -/
theorem compRestT_strs {ct elt : PySem.Expr} {x : Str} {scope : Scope} {cl : List (Str × Addr)} {S : List (Addr × Obj) → Prop} {P : Nat → Value → Prop} {Fin : List Value → List (Addr × Obj) → Prop} {news : List (Addr × Obj)} (ks : List Str) (b : Str → Bool) (hS : S news)
    (hP : ∀ i v, P i v → ∃ k t, ks[i]? = some k ∧ v = Value.str k t)
    (step : ∀ k t I oI C oC D ys m₂ h tk (E' : Value → Shared → Prop), k ∈ ks → LCg.NsObj oC m₂ → m₂ x = some (.str k t) → Fr h₀ L h m → News h₀ L h ((I, oI) :: (C, oC) :: (D, LCg.lst ys) :: news) →
      wpAny (model prog w) A (isTrue ct (compEnvC scope cl C env) (eval ct (compEnvC scope cl C env))) (TestEnd h₀ L m s ((I, oI) :: (C, oC) :: (D, LCg.lst ys) :: news) (b k) (fun s' =>
        wpAny (model prog w) A (eval elt (compEnvC scope cl C env)) (PureEnd h₀ L m s ((I, oI) :: (C, oC) :: (D, LCg.lst ys) :: news) (fun y => ∃ t, y = Value.str k t)) E' s')) E' { s with heap := h, toks := tk })
    (fin : ∀ ys : List Value, StrsAre ys (ks.filter b) → Fin ys news) : ∀ n i, i + n = ks.length → ∀ ys, StrsAre ys ((ks.take i).filter b) → LCt.CompRestT prog w A h₀ L m env ct elt x scope cl s S P Fin n i ys news
  | 0, i, hi, ys, hy => fin ys (by rw [List.take_of_length_le (by omega)] at hy; exact hy)
  | n + 1, i, hi, ys, hy => by
    refine LCt.CompRestT.succ fun v I oI C oC D m₂ h tk E' hv hC hx F N off ne => ?_
    obtain ⟨k, t, hk, rfl⟩ := hP i v hv
    have hkm : k ∈ ks := List.mem_of_getElem? hk
    have htake : ks.take (i + 1) = ks.take i ++ [k] := by rw [List.take_succ, hk]; rfl
    refine wpAny_mono (step k t I oI C oC D ys m₂ h tk E' hkm hC hx F N) (fun ok s' h' => ?_) fun _ _ e => e
    obtain ⟨rfl, hT, hrest⟩ := h'
    cases hb : b k with
    | true =>
      rw [if_pos rfl]
      refine wpAny_mono (hT hb) (fun y s'' h'' => ?_) fun _ _ e => e
      obtain ⟨h2, tk2, rfl, F2, N2, t2, rfl⟩ := h''
      refine ⟨h2, tk2, news, rfl, F2, N2, off, hS, compRestT_strs ks b hS hP step fin n (i + 1) (by omega) _ ?_⟩
      rw [htake, List.filter_append]
      have : [k].filter b = [k] := by simp [hb]
      rw [this]
      exact strs_snoc hy k t2
    | false =>
      rw [if_neg Bool.false_ne_true]
      obtain ⟨h2, tk2, rfl, F2, N2⟩ := hrest
      refine ⟨h2, tk2, news, rfl, F2, N2, off, hS, compRestT_strs ks b hS hP step fin n (i + 1) (by omega) _ ?_⟩
      rw [htake, List.filter_append]
      have : [k].filter b = [] := by simp [hb]
      rw [this, List.append_nil]
      exact hy
theorem post_val_or_str_le {s : Shared} {c : Prop} [Decidable c] {y z : Str} {t : Tok} {Q : Value → Shared → Prop} (h0 : 0 < s.toks) (h : (if c then y else z).length ≤ sizeLine ∧ ∀ t' k, 0 < k → Q (.str (if c then y else z) t') { s with toks := k }) :
    (if c then Made.val (.str y t) else Made.str z).post Q s := by
  by_cases hc : c
  · rw [if_pos hc]; have h' := h.2 t s.toks h0; rw [if_pos hc] at h'; exact h'
  · rw [if_neg hc]; have h' := h.2 s.toks (s.toks + 1) (Nat.succ_pos _); have h1 := h.1; rw [if_neg hc] at h' h1; exact ⟨h1, h'⟩
theorem slice_toks {value slice : PySem.Expr} {x : Str} {t : Tok} {news : List (Addr × Obj)} {Q : Value → Shared → Prop} {i : Int} {ui : Tok} (h0 : 0 < s.toks) (hF : Fr h₀ L s.heap m) (hN : News h₀ L s.heap news) (h : ∀ h' t' k, 0 < k → Fr h₀ L h' m → News h₀ L h' news → Q (.str (Txt.slice x (some i) none) t') { s with heap := h', toks := k })
    (hsz : x.length ≤ sizeLine) (hs : subscripted slice false (.str x t) (.ref s.heap.objs.size) = operate [.ref s.heap.objs.size, .str x t] (getItem (.str x t) (.ref s.heap.objs.size)) := by with_unfolding_all rfl)
    (ht : ∀ r, letTemporaryGo value (.str x t) r = pure () := by intro _; with_unfolding_all rfl) :
    wpAny (model prog w) A (subscriptTail value slice (.str x t) (.ref s.heap.objs.size)) Q E { s with heap := s.heap.push { cls := .type "slice", data := .fields #[.int i ui, .none, .none] } } := by
  obtain ⟨F', N'⟩ := keptFrN s.heap { cls := .type "slice", data := .fields #[.int i ui, .none, .none] } ⟨hF, hN⟩
  exact tail_of_ItemOn ⟨"str", _, F.slot_str_getitem.lookup, typeIs_str _ _ _, wpAny_getItem_str_slice (l := some (i, ui)) (u := none) (st := none) ⟨_, Heap.get?_push_size _ rfl, rfl, rfl⟩ rfl
    (post_val_or_str_le h0 ⟨Nat.le_trans (Txt.slice_le x _ _) hsz, fun t' k hk => h _ t' k hk F' N'⟩)⟩ hs ht
end
theorem cb_drop1 {a b p : Addr × Obj} {r : List (Addr × Obj)} (h : p ∈ a :: r) : p ∈ a :: b :: r := by
  rcases List.mem_cons.mp h with rfl | h
  · exact List.mem_cons_self ..
  · exact .tail _ (.tail _ h)
theorem off1_drop {D : Addr} {a : Addr × Obj} {r : List (Addr × Obj)} (h : LCg.Off1 D (a :: r)) : LCg.Off1 D r := h.2
noncomputable def notEmpty (S : Str) : Bool := S != Str.ofString ""
theorem split_fit {M : Str} (h : M.cps.size ≤ 600) : M.length + 2 ≤ sizeLine := Nat.le_trans (Nat.add_le_add_right h 2) (by decide)
theorem strv_fit {l : List (Str × Tok)} {M y : Str} (e : l.map (·.1) = Txt.split M y) (h : (Txt.split M y).length ≤ 100) : (strValues l).toArray.size ≤ sizeLine := by
  have : (strValues l).length = l.length := by simp [strValues]
  rw [List.size_toArray, this, ← List.length_map (f := (·.1)), e]
  exact Nat.le_trans h (by decide)
local macro_rules | `(tactic| walk_at "exec Assign cons ListComp") => `(tactic| (k_here; (with_reducible show wpAny _ _ (exec (Stmt.Assign _ (Expr.ListComp _ [⟨Expr.Name _ _, Expr.Call _ _ _ _, [_], 0⟩] _ _) _) _) _ _ _); k_dflt (refine LCt.Assign_ListComp_T (F₀ := by k_asm) (by rfl) (by with_unfolding_all rfl) (by with_unfolding_all rfl) (by decide) (by rfl) (by decide) (by rfl) (by rfl) (by rfl) ?_)))
local macro_rules | `(tactic| walk_at "call builtin:str.split") => `(tactic| (k_here; (with_reducible show wpAny _ _ (call (Value.builtin "str.split") _) _ _ _); (refine KSpl.split1 (by k_asm) (by k_asm) (by decide) ?_ (split_fit (by with_reducible assumption)); intro D' l' h' k' e' a' F' N' l1)))
local macro_rules | `(tactic| walk_at "CompSrcT") => `(tactic| (k_here; k_dflt (refine LCt.CompSrcT.ledger (by rfl) (by k_asm) (by k_asm) (List.mem_cons_self ..) (strv_fit (by assumption) (by assumption)) ?_; intro g')))
local macro_rules | `(tactic| walk_at "CompRestT") => `(tactic| (refine Held.out ?_))
set_option maxRecDepth 100000 in
set_option maxHeartbeats 4000000 in
theorem segE1 (w : World) (mean : ExcName → Option Value) (mg mb : Str → Option Value) :
    ∀ (h₀ : Heap) (L fa : Nat) (cd : Value) (m : Str → Option Value) (s : Shared) (Q : Flow → Shared → Prop) (E : Value → Shared → Prop) (news : List (Addr × Obj)) (tm : Tok) (M : Str),
    Below callerA h₀ [] h₀ → Fr h₀ L s.heap m → (hd.heap_1 w.params).In h₀ → News h₀ L s.heap news → Top hd.view_1 (looseW hd.view_1 loose3) mean mg mb h₀ →
    m (Str.ofString "mail") = some (.str M tm) → M.cps.size ≤ 600 → (Txt.split M (Str.ofString "\r\n")).length ≤ 100 →
    (∀ (ls : List Value) (le : Nat) (m' : Str → Option Value) (h' : Heap) (tk' : Nat), StrsAre ls ((Txt.split M (Str.ofString "\r\n")).filter notEmpty) → m' (Str.ofString "left") = some (.ref le) → (∀ y, y ≠ Str.ofString "left" → m' y = m y) → Fr h₀ L h' m' → News h₀ L h' ((le, LCg.lst ls) :: news) → LCg.Off1 le news → Q .next { s with heap := h', toks := tk' }) →
    wpAny (model PySem.Challenge.rw_st0008_01.row.prog w) (callerA.deeper (lawEnv L fa cd)) (execs ((lawBody.drop 16).take 1) (lawEnv L fa cd)) Q E s := by
  k_fill
  intro h₀ L fa cd m s Q E news tm M B F X N T hm1 hM hsp hret
  rw [peel1 hm1] at F
  show wpAny _ _ (execs (_ :: []) _) _ _ _
  ktr_step
  refine Held.mk ?_
  rename List.map _ _ = Txt.split _ _ => hl
  rename StrsAre _ _ => hls
  rw [hl] at hls
  have hlen := hls.length
  refine compRestT_strs (Txt.split M (Str.ofString "\r\n")) notEmpty (Or.inr ⟨_, List.mem_cons_self .., rfl, _, rfl⟩) ?hP ?step ?fin _ 0 (by rw [List.size_toArray, hlen, Nat.zero_add]) [] .nil
  case hP =>
    intro i v hv
    obtain ⟨k, t, e1, e2⟩ := StrsAre.item hls i v (by simpa using hv)
    exact ⟨k, t, e2, e1⟩
  case step =>
    intro k t I oI C oC Dn ys mm h tk E' hk hC hx F N
    ktr_step
    refine ⟨rfl, fun _ => ?_, _, _, rfl, by k_asm, by k_asm⟩
    ktr_step
    exact ⟨_, _, rfl, by k_asm, by k_asm, _, rfl⟩
  case fin =>
    intro ys hys
    clear hls hlen
    ktr_step
    rename Fr _ _ _ _ => lF
    rename News _ _ _ _ => lN
    refine' hret ys _ _ _ _ hys ?e1 ?e2 lF (fun p hp => lN p (cb_drop1 hp)) (off1_drop (by assumption))
    case e1 => rfl
    case e2 => exact fun y hy => by simp only [if_neg hy]; exact rest1 hm1
end Mine
end
section
-- SegE2
example : True := by
  w_top off
  trivial
open PySem PySem.W PyProof.Rows PySem.Spec
namespace Mine
noncomputable def cutOf (z : Int) (S : Str) : Str := if (Txt.item S 0 == Str.ofString ".") = true then Txt.slice S (some z) none else S
/-- what is known of a row of the mail, from which the signs ds are read -/
structure RowOk (z : Int) (S : Str) (ds : List Int) : Prop where
  pos : 0 < S.cps.size
  len : S.cps.size ≤ 600
  cut : (cutOf z S).cps.size ≤ 600
  rd : ∃ (y : Str) (NA : List Int → Nat → Prop), Reads y NA ∧ NA ds 0 ∧ ds.length ≤ 100 ∧ Txt.replace (Txt.replace (Txt.replace (cutOf z S) (Str.ofString "&lt;") (Str.ofString "<")) (Str.ofString "&gt;") (Str.ofString ">")) (Str.ofString "&amp;") (Str.ofString "&") = y ∧ y.cps.size ≤ 1000000
/-- the rows read so far -/
noncomputable def Grid (W : List (List Int)) (news : List (Addr × Obj)) (i : Nat) (ys : List Value) (nw : List (Addr × Obj)) : Prop :=
  ∃ dz : List (Addr × List Value), dz.length = i ∧ ys = dz.map (fun p => Value.ref p.1) ∧ nw = (dz.map fun p => (p.1, LCg.lst p.2)).reverse ++ news ∧ ∀ k p, dz[k]? = some p → IntsAre p.2 ((W.getD k []).map worth1)
theorem grid_snoc {W : List (List Int)} {news : List (Addr × Obj)} {i : Nat} {ys : List Value} {nw : List (Addr × Obj)} (h : Grid W news i ys nw) {D : Addr} {zs : List Value} (hz : IntsAre zs ((W.getD i []).map worth1)) : Grid W news (i + 1) (ys ++ [.ref D]) ((D, LCg.lst zs) :: nw) := by
  obtain ⟨dz, hl, rfl, rfl, hr⟩ := h
  refine ⟨dz ++ [(D, zs)], by simp [hl], by simp, by simp, fun k p hk => ?_⟩
  rcases Nat.lt_or_ge k dz.length with hlt | hge
  · rw [List.getElem?_append_left hlt] at hk
    exact hr k p hk
  · rw [List.getElem?_append_right hge] at hk
    have h0 : k - dz.length = 0 := by
      rcases Nat.lt_or_ge 0 (k - dz.length) with h1 | h1
      · rw [List.getElem?_eq_none (by show 1 ≤ _; omega)] at hk; cases hk
      · omega
    rw [h0] at hk
    have : p = (D, zs) := by simpa using hk.symm
    subst this
    have e : k = i := by omega
    subst e
    exact hz
theorem cb_turn4 {d a b c p : Addr × Obj} {r : List (Addr × Obj)} (h : p ∈ a :: b :: c :: d :: r) : p ∈ d :: a :: b :: c :: r := by
  rcases List.mem_cons.mp h with rfl | h
  · exact .tail _ (.head _)
  · rcases List.mem_cons.mp h with rfl | h
    · exact .tail _ (.tail _ (.head _))
    · rcases List.mem_cons.mp h with rfl | h
      · exact .tail _ (.tail _ (.tail _ (.head _)))
      · rcases List.mem_cons.mp h with rfl | h
        · exact .head _
        · exact .tail _ (.tail _ (.tail _ (.tail _ h)))
theorem off3_cons {I C D Dz : Addr} {oI oC oD oz : Obj} {nw : List (Addr × Obj)} (h : LCg.Off1 Dz ((I, oI) :: (C, oC) :: (D, oD) :: nw)) (off : LCg.Off3 I C D nw) : LCg.Off3 I C D ((Dz, oz) :: nw) := by
  obtain ⟨a, b, c, _⟩ := h
  exact ⟨⟨Ne.symm a, Ne.symm b, Ne.symm c⟩, off⟩
theorem grid_src {W : List (List Int)} {news : List (Addr × Obj)} {i : Nat} {ys : List Value} {nw : List (Addr × Obj)} (h : Grid W news i ys nw) : ∀ p ∈ news, p ∈ nw := by
  obtain ⟨dz, _, _, rfl, _⟩ := h
  exact fun p hp => List.mem_append_right _ hp
theorem len_hi2 {R : Str} (h : R.cps.size ≤ 600) : R.length ≤ sizeLine := Nat.le_trans h (by decide)
local macro_rules | `(tactic| walk_at "CompSrc") => `(tactic| (k_here; k_dflt (refine LCg.CompSrc.ledger (by rfl) (by k_asm) (by k_asm) (by assumption) (by assumption) ?_; intro g')))
local macro_rules | `(tactic| walk_at "call ref") => `(tactic| (refine Held.out ?_))
local macro_rules | `(tactic| walk_at "subscriptTail Name Slice str ref") => `(tactic| (k_here; (with_reducible show wpAny _ _ (subscriptTail _ (Expr.Slice _ none none _) (Value.str _ _) (Value.ref _)) _ _ _); (rename Fr _ _ _ _ => lF'); (rename News _ _ _ _ => lN'); k_dflt (refine slice_toks (s := ⟨_, _, _, _, _⟩) (Nat.succ_pos _) lF' lN' ?_ (len_hi2 (by assumption))); clear lF' lN'; intro h6 t6 k6 hk6 F6 N6))
set_option maxRecDepth 100000 in
set_option maxHeartbeats 4000000 in
theorem segE2 (w : World) (mean : ExcName → Option Value) (mg mb : Str → Option Value) :
    ∀ (h₀ : Heap) (L fa : Nat) (cd : Value) (m : Str → Option Value) (s : Shared) (Q : Flow → Shared → Prop) (E : Value → Shared → Prop) (news : List (Addr × Obj)) (q6 : Obj) (tt : Tok) (z : Int) (le : Nat) (ls : List Value) (Ss : List Str) (W : List (List Int)),
    Below callerA h₀ [] h₀ → Fr h₀ L s.heap m → (hd.heap_1 w.params).In h₀ → News h₀ L s.heap news → Top hd.view_1 (looseW hd.view_1 loose3) mean mg mb h₀ →
    m (Str.ofString "left") = some (.ref le) → (L + 1 + 1 + 1 + 1 + 1 + 1, q6) ∈ news → q6.data = .cell (some (.int z tt)) → 1 ≤ z ∧ z ≤ 3 →
    (le, LCg.lst ls) ∈ news → StrsAre ls Ss → Ss.length ≤ 100 → (∀ i S, Ss[i]? = some S → RowOk z S (W.getD i [])) →
    (∀ (gr : Nat) (ys : List Value) (nw : List (Addr × Obj)) (m' : Str → Option Value) (h' : Heap) (tk' : Nat), Grid W news Ss.length ys nw → m' (Str.ofString "grid") = some (.ref gr) → (∀ y, y ≠ Str.ofString "grid" → m' y = m y) → Fr h₀ L h' m' → News h₀ L h' ((gr, LCg.lst ys) :: nw) → LCg.Off1 gr nw → Q .next { s with heap := h', toks := tk' }) →
    wpAny (model PySem.Challenge.rw_st0008_01.row.prog w) (callerA.deeper (lawEnv L fa cd)) (execs ((lawBody.drop 17).take 1) (lawEnv L fa cd)) Q E s := by
  k_fill
  intro h₀ L fa cd m s Q E news q6 tt z le ls Ss W B F X N T hm1 hq d6 hz hle hls hS hrows hret
  rw [peel1 hm1] at F
  have hlf : ls.toArray.size ≤ sizeLine := by rw [List.size_toArray, hls.length]; exact Nat.le_trans hS (by decide)
  show wpAny _ _ (execs (_ :: []) _) _ _ _
  ktr_step
  refine Held.mk ?_
  refine compRest_of ls.toArray.size (Grid W news) ?step ?fin _ 0 (Nat.zero_add _) [] news ⟨[], rfl, rfl, rfl, fun k p h => by simp at h⟩
  case step =>
    intro i ys nw hi hG v I oI C oC D mm h tk E' hv hC hx F N off ne
    obtain ⟨S, t, rfl, hSi⟩ := StrsAre.item hls i v (by simpa using hv)
    have hR := hrows i S hSi
    have hR0 := hR.pos
    have hR6 := hR.len
    have hRc := hR.cut
    have hq' := grid_src hG _ hq
    have hle' := grid_src hG _ hle
    obtain ⟨y, NA, HR, h0, hds, hxy, hy⟩ := hR.rd
    ktr_step
    · refine Held.mk ?_
      have e : cutOf z S = _ := if_pos (by assumption)
      rw [e] at hxy hRc
      refine numb_ok w mean mg mb _ _ _ _ _ _ _ _ _ _ _ _ _ _ _ _ _ _ y _ _ _ NA HR h0 hds hxy hy (by k_asm) (by k_asm) (by k_asm) (by k_asm) (by k_asm) (by first | exact rfl | assumption) hRc (by first | assumption | exact Nat.succ_pos _) (by ktr_room) (by ktr_units) ?_
      intro Dz zs h9 tk9 F9 N9 off9 hz9
      (try dsimp only)
      (try k_fold)
      ktr_step
      refine Held.mk ?_
      refine ⟨h9, tk9, (Dz, LCg.lst zs) :: nw, rfl, F9, ?_, ?_, ?_, ?_⟩
      · exact fun p hp => N9 p (cb_turn4 hp)
      · exact off3_cons off9 off
      · exact Or.inr ⟨_, List.mem_cons_of_mem _ hle', rfl, _, rfl⟩
      · exact grid_snoc hG hz9
    · refine Held.mk ?_
      have e : cutOf z S = _ := if_neg (Bool.eq_false_iff.mp (by assumption))
      rw [e] at hxy hRc
      refine numb_ok w mean mg mb _ _ _ _ _ _ _ _ _ _ _ _ _ _ _ _ _ _ y _ _ _ NA HR h0 hds hxy hy (by k_asm) (by k_asm) (by k_asm) (by k_asm) (by k_asm) (by first | exact rfl | assumption) hRc (by first | assumption | exact Nat.succ_pos _) (by ktr_room) (by ktr_units) ?_
      intro Dz zs h9 tk9 F9 N9 off9 hz9
      (try dsimp only)
      (try k_fold)
      ktr_step
      refine Held.mk ?_
      refine ⟨h9, tk9, (Dz, LCg.lst zs) :: nw, rfl, F9, ?_, ?_, ?_, ?_⟩
      · exact fun p hp => N9 p (cb_turn4 hp)
      · exact off3_cons off9 off
      · exact Or.inr ⟨_, List.mem_cons_of_mem _ hle', rfl, _, rfl⟩
      · exact grid_snoc hG hz9
  case fin =>
    intro ys nw hG
    ktr_step
    rename Fr _ _ _ _ => lF
    rename News _ _ _ _ => lN
    refine' hret _ ys nw _ _ _ ?g1 ?e1 ?e2 lF lN (by assumption)
    case g1 => rw [List.size_toArray, hls.length] at hG; exact hG
    case e1 => rfl
    case e2 => exact fun y hy => by simp only [if_neg hy]; exact rest1 hm1
end Mine
end
section
-- SegE3
example : True := by
  w_top off
  trivial
open PySem PySem.W PyProof.Rows PySem.Spec
namespace Mine
set_option maxRecDepth 100000 in
set_option maxHeartbeats 4000000 in
theorem segE3 (w : World) (mean : ExcName → Option Value) (mg mb : Str → Option Value) :
    ∀ (h₀ : Heap) (L fa : Nat) (cd : Value) (m : Str → Option Value) (s : Shared) (Q : Flow → Shared → Prop) (E : Value → Shared → Prop) (news : List (Addr × Obj)) (gr d0 d1 d2 : Nat) (g00 g01 g02 g03 g10 g11 g12 g13 g20 g21 g22 g23 : Int) (t00 t01 t02 t03 t10 t11 t12 t13 t20 t21 t22 t23 : Tok),
    Below callerA h₀ [] h₀ → Fr h₀ L s.heap m → (hd.heap_1 w.params).In h₀ → News h₀ L s.heap ((gr, LCg.lst [.ref d0, .ref d1, .ref d2]) :: (d2, LCg.lst [.int g20 t20, .int g21 t21, .int g22 t22, .int g23 t23]) :: (d1, LCg.lst [.int g10 t10, .int g11 t11, .int g12 t12, .int g13 t13]) :: (d0, LCg.lst [.int g00 t00, .int g01 t01, .int g02 t02, .int g03 t03]) :: news) → Top hd.view_1 (looseW hd.view_1 loose3) mean mg mb h₀ →
    m (Str.ofString "grid") = some (.ref gr) →
    (∀ (h' : Heap) (tk' : Nat), Fr h₀ L h' m → News h₀ L h' ((gr, LCg.lst [.ref d0, .ref d1, .ref d2]) :: (d2, LCg.lst [.int g20 t20, .int g21 t21, .int g22 t22, .int g23 t23]) :: (d1, LCg.lst [.int g10 t10, .int g11 t11, .int g12 t12, .int g13 t13]) :: (d0, LCg.lst [.int g00 t00, .int g01 t01, .int g02 t02, .int g03 t03]) :: news) → Q .next { s with heap := h', toks := tk' }) →
    wpAny (model PySem.Challenge.rw_st0008_01.row.prog w) (callerA.deeper (lawEnv L fa cd)) (execs ((lawBody.drop 18).take 1) (lawEnv L fa cd)) Q E s := by
  k_fill
  intro h₀ L fa cd m s Q E news gr d0 d1 d2 g00 g01 g02 g03 g10 g11 g12 g13 g20 g21 g22 g23 t00 t01 t02 t03 t10 t11 t12 t13 t20 t21 t22 t23 B F X N T hm1 hret
  rw [peel1 hm1] at F
  show wpAny _ _ (execs (_ :: []) _) _ _ _
  ktr_step
  refine Held.mk ?_
  refine compRest_pure (fun i y => ∃ t : Tok, y = Value.int 4 t) (Or.inr ⟨_, by k_mem, rfl, _, rfl⟩) ?_ ?_
  · intro i ys hi v I oI C oC D mm h tk E' hv hC hx F N
    rcases pick3 hv with ⟨rfl, rfl⟩ | ⟨rfl, rfl⟩ | ⟨rfl, rfl⟩
    · ktr_step
      exact ⟨_, _, rfl, by k_asm, by k_asm, _, rfl⟩
    · ktr_step
      exact ⟨_, _, rfl, by k_asm, by k_asm, _, rfl⟩
    · ktr_step
      exact ⟨_, _, rfl, by k_asm, by k_asm, _, rfl⟩
  intro zs hl hR
  have hzz : IntsAre zs [4, 4, 4] := ints_pt (by rw [hl]; rfl) (fun i y hy => by
    obtain ⟨t, e⟩ := hR i y hy
    refine ⟨t, ?_⟩
    rw [e]
    rcases i with _ | _ | _ | i
    · rfl
    · rfl
    · rfl
    · exact absurd (List.getElem?_eq_none (by rw [hl]; exact Nat.le_add_left 3 i)) (by rw [hy]; exact fun h => nomatch h))
  clear hR hl
  ktr_step
  rename Fr _ _ _ _ => lF
  rename News _ _ _ _ => lN
  rw [← peel1 hm1] at lF
  exact hret _ _ lF (fun p hp => lN p (by first | exact hp | exact .tail _ hp | exact .tail _ (.tail _ hp) | exact .tail _ (.tail _ (.tail _ hp))))
end Mine
end
section
-- SegFb
example : True := by
  w_top off
  trivial
open PySem PySem.W PyProof.Rows PySem.Spec
namespace Mine
theorem fr_full {h₀ h : Heap} {L : Addr} {m n : Str → Option Value} {x : Str} {v2 v1 : Option Value} (hm : m = n) (F : Fr h₀ L h (fun y => if y = x then v2 else if y = x then v1 else n y)) : Fr h₀ L h (fun y => if y = x then v2 else m y) := by
  subst hm
  have : (fun y => if y = x then v2 else if y = x then v1 else m y) = fun y => if y = x then v2 else m y := by
    funext y
    by_cases e : y = x
    · rw [if_pos e, if_pos e]
    · rw [if_neg e, if_neg e, if_neg e]
  rw [← this]
  exact F
local macro_rules | `(tactic| walk_at "loadName") => `(tactic| (k_here; (rename Fr _ _ _ _ => lF'); k_dflt (refine wpAny_loadName_local (by rfl) (by rfl) (Fr.ns lF') (by rfl) ?_)))
local macro_rules | `(tactic| walk_at "call ref") => `(tactic| (k_here; (with_reducible show wpAny _ _ (PySem.call (Value.ref 89) _ _) _ _ _); k_dflt ((refine turn_ok _ _ _ _ _ _ _ _ _ _ _ _ _ _ _ _ _ _ _ _ _ _ _ _ _ _ _ _ (by k_asm) (by k_asm) (by k_asm) (by k_asm) (by k_asm) (by first | exact rfl | assumption) trivial (by ktr_room) (by ktr_units) ?_); (intro t9 h9 tk9 F9 N9); (try dsimp only); (try k_fold))))
noncomputable def fBody : List Stmt := match lawBody.drop 20 with
  | .For _ _ (.For _ _ b _ _ :: _) _ _ :: _ => b
  | _ => []
theorem peel4 {m : Str → Option Value} {x x' x'' x3 : Str} {v v' v'' v3 : Value} (h : m x = some v) (h' : m x' = some v') (h'' : m x'' = some v'') (h3 : m x3 = some v3) : m = fun y => if y = x then some v else if y = x' then some v' else if y = x'' then some v'' else if y = x3 then some v3 else m y := by
  funext y
  by_cases e : y = x
  · subst e; rw [if_pos rfl, h]
  · rw [if_neg e]
    exact congrFun (peel3 h' h'' h3) y
section
variable {prog : Program} {w : World} {A : Around} {E : Value → Shared → Prop} {s : Shared}
theorem item_at {value slice : PySem.Expr} {l : Addr} {vs : List Value} {i : Int} {u : Tok} {x : Value} {Q : Value → Shared → Prop} (hl : s.heap.IsList l vs.toArray) (he : vs[i.toNat]? = some x) (h0 : 0 ≤ i) (hfit : i < 2 ^ 63) (h : Q x s)
    (hs : subscripted slice false (.ref l) (.int i u) = operate [.ref l, .int i u] (getItem (.ref l) (.int i u)) := by with_unfolding_all rfl) :
    wpAny (model prog w) A (subscriptTail value slice (.ref l) (.int i u)) Q E s :=
  tail_any hl.typeIs slot_list_getitem.lookup (wpAny_getItem_list hl h0 hfit (by simpa using he) h) hs
end
local macro_rules | `(tactic| walk_at "subscriptTail") => `(tactic| (k_here; (with_reducible show wpAny _ _ (subscriptTail _ _ (Value.ref _) (Value.int _ _)) _ _ _); (rename News _ _ _ _ => lN'); k_dflt (refine item_at (News.isList lN' (by assumption)) (by assumption) (by omega) (by omega) ?_)))
set_option maxRecDepth 100000 in
set_option maxHeartbeats 4000000 in
theorem segFb (w : World) (mean : ExcName → Option Value) (mg mb : Str → Option Value) :
    ∀ (h₀ : Heap) (L fa : Nat) (cd : Value) (m : Str → Option Value) (s : Shared) (Q : Flow → Shared → Prop) (E : Value → Shared → Prop) (news : List (Addr × Obj)) (gr p q : Nat) (refs zp zq : List Value) (x iv jv a b c d : Int) (tx ti tj ta tb tc td : Tok),
    Below callerA h₀ [] h₀ → Fr h₀ L s.heap m → (hd.heap_1 w.params).In h₀ → News h₀ L s.heap news → Top hd.view_1 (looseW hd.view_1 loose3) mean mg mb h₀ →
    m (Str.ofString "full") = some (.int x tx) → m (Str.ofString "i") = some (.int iv ti) → m (Str.ofString "j") = some (.int jv tj) → m (Str.ofString "grid") = some (.ref gr) → 0 ≤ iv ∧ iv < 10 → 0 ≤ jv ∧ jv < 10 →
    (gr, LCg.lst refs) ∈ news → refs[iv.toNat]? = some (.ref p) → refs[(iv + 1).toNat]? = some (.ref q) → (p, LCg.lst zp) ∈ news → (q, LCg.lst zq) ∈ news →
    zp[jv.toNat]? = some (.int a ta) → zp[(jv + 1).toNat]? = some (.int b tb) → zq[jv.toNat]? = some (.int c tc) → zq[(jv + 1).toNat]? = some (.int d td) →
    (∀ (t : Tok) (h' : Heap) (tk' : Nat), Fr h₀ L h' (fun y => if y = Str.ofString "full" then some (.int (x + turnZ a b d + turnZ a d c) t) else m y) → News h₀ L h' news → Q .next { s with heap := h', toks := tk' }) →
    wpAny (model PySem.Challenge.rw_st0008_01.row.prog w) (callerA.deeper (lawEnv L fa cd)) (execs fBody (lawEnv L fa cd)) Q E s := by
  k_fill
  intro h₀ L fa cd m s Q E news gr p q refs zp zq x iv jv a b c d tx ti tj ta tb tc td B F X N T hm1 hm2 hm3 hm4 hi hj n1 r1 r2 n2 n3 r3 r4 r5 r6 hret
  rw [peel4 hm1 hm2 hm3 hm4] at F
  show wpAny _ _ (execs (_ :: _ :: []) _) _ _ _
  ktr_step
  rename Fr _ _ _ _ => lF
  rename News _ _ _ _ => lN
  exact hret _ _ _ (fr_full (peel4 hm1 hm2 hm3 hm4) lF) lN
end Mine
end
section
-- SegF
example : True := by
  w_top off
  trivial
open PySem PySem.W PyProof.Rows PySem.Spec
namespace Mine
noncomputable def fullZ (g00 g01 g02 g03 g10 g11 g12 g13 g20 g21 g22 g23 : Int) : Int := turnZ g00 g01 g11 + turnZ g00 g11 g10 + turnZ g01 g02 g12 + turnZ g01 g12 g11 + turnZ g02 g03 g13 + turnZ g02 g13 g12 + turnZ g10 g11 g21 + turnZ g10 g21 g20 + turnZ g11 g12 g22 + turnZ g11 g22 g21 + turnZ g12 g13 g23 + turnZ g12 g23 g22
theorem unr_off3 {I : Addr} : ∀ {l : List (Addr × Obj)}, AllLt I l → ∀ p ∈ l, p.1 ≠ I
  | [], _, _, hp => nomatch hp
  | _ :: _, h, p, hp => by
    rcases List.mem_cons.mp hp with rfl | hp
    · exact Nat.ne_of_lt h.1
    · exact unr_off3 h.2 p hp
local macro_rules | `(tactic| walk_at "UnrEnd") => `(tactic| (k_here; (rename Fr _ _ _ _ => lF'); (rename News _ _ _ _ => lN'); k_dflt (refine ⟨_, _, _, _, rfl, lF', lN', unr_off3 (by assumption), ?_⟩); clear lF' lN'))
local macro_rules | `(tactic| walk_at "execs cons") => `(tactic| (k_here; (with_reducible show wpAny _ _ (execs [Stmt.AugAssign _ _ _ _, Stmt.AugAssign _ _ _ _] _) _ _ _); k_dflt (refine segFb _ _ _ _ _ _ _ _ _ _ _ _ _ _ _ _ _ _ _ _ _ _ _ _ _ _ _ _ _ _ _ _ _ (by k_asm) (by k_asm) (by k_asm) (by k_asm) (by k_asm) (by rfl) (by rfl) (by rfl) (by rfl) (by decide) (by decide) (by k_mem) (by rfl) (by rfl) (by k_mem) (by k_mem) (by rfl) (by rfl) (by rfl) (by rfl) ?_); intro tf hf tkf Ff Nf))
set_option maxRecDepth 100000 in
set_option maxHeartbeats 8000000 in
theorem segF (w : World) (mean : ExcName → Option Value) (mg mb : Str → Option Value) :
    ∀ (h₀ : Heap) (L fa : Nat) (cd : Value) (m : Str → Option Value) (s : Shared) (Q : Flow → Shared → Prop) (E : Value → Shared → Prop) (news : List (Addr × Obj)) (gr d0 d1 d2 : Nat) (g00 g01 g02 g03 g10 g11 g12 g13 g20 g21 g22 g23 : Int) (t00 t01 t02 t03 t10 t11 t12 t13 t20 t21 t22 t23 : Tok),
    Below callerA h₀ [] h₀ → Fr h₀ L s.heap m → (hd.heap_1 w.params).In h₀ → News h₀ L s.heap ((gr, LCg.lst [.ref d0, .ref d1, .ref d2]) :: (d2, LCg.lst [.int g20 t20, .int g21 t21, .int g22 t22, .int g23 t23]) :: (d1, LCg.lst [.int g10 t10, .int g11 t11, .int g12 t12, .int g13 t13]) :: (d0, LCg.lst [.int g00 t00, .int g01 t01, .int g02 t02, .int g03 t03]) :: news) → Top hd.view_1 (looseW hd.view_1 loose3) mean mg mb h₀ →
    PassesOwn (model PySem.Challenge.rw_st0008_01.row.prog w) (callerA.deeper (lawEnv L fa cd)) (lawEnv L fa cd) E → m (Str.ofString "grid") = some (.ref gr) → 
    (∀ (m' : Str → Option Value) (z : Int) (t : Tok) (h' : Heap) (tk' : Nat), z = fullZ g00 g01 g02 g03 g10 g11 g12 g13 g20 g21 g22 g23 → m' (Str.ofString "full") = some (.int z t) → (∀ y, y ≠ Str.ofString "full" → y ≠ Str.ofString "i" → y ≠ Str.ofString "j" → m' y = m y) → Fr h₀ L h' m' → News h₀ L h' ((gr, LCg.lst [.ref d0, .ref d1, .ref d2]) :: (d2, LCg.lst [.int g20 t20, .int g21 t21, .int g22 t22, .int g23 t23]) :: (d1, LCg.lst [.int g10 t10, .int g11 t11, .int g12 t12, .int g13 t13]) :: (d0, LCg.lst [.int g00 t00, .int g01 t01, .int g02 t02, .int g03 t03]) :: news) → Q .next { s with heap := h', toks := tk' }) →
    wpAny (model PySem.Challenge.rw_st0008_01.row.prog w) (callerA.deeper (lawEnv L fa cd)) (execs ((lawBody.drop 19).take 2) (lawEnv L fa cd)) Q E s := by
  k_fill
  intro h₀ L fa cd m s Q E news gr d0 d1 d2 g00 g01 g02 g03 g10 g11 g12 g13 g20 g21 g22 g23 t00 t01 t02 t03 t10 t11 t12 t13 t20 t21 t22 t23 B F X N T hE hm1 hret
  rw [peel1 hm1] at F
  show wpAny _ _ (execs (_ :: _ :: []) _) _ _ _
  ktr_step
  rename Fr _ _ _ _ => lF
  rename News _ _ _ _ => lN
  refine' hret _ _ _ _ _ ?z ?f ?r lF lN
  case f => exact rfl
  case z => unfold fullZ; rw [Int.zero_add]
  case r => exact fun y k1 k2 k3 => by simp only [if_neg k1, if_neg k2, if_neg k3]; exact rest1 hm1
end Mine
end
section
-- SegG1
example : True := by
  w_top off
  trivial
open PySem PySem.W PyProof.Rows PySem.Spec PySem.Calls
namespace Mine
section
variable {prog : Program} {w : World} {A : Around} {E : Value → Shared → Prop} {s : Shared}
theorem item_ints {value slice : PySem.Expr} {l : Addr} {vs : List Value} {ns : List Int} {i : Int} {u : Tok} {Q : Value → Shared → Prop} (hl : s.heap.IsList l vs.toArray) (hw : IntsAre vs ns) (h0 : 0 ≤ i) (h1 : i < (ns.length : Int)) (hfit : i < 2 ^ 63) (h : ∀ t', Q (.int (ns.getD i.toNat 0) t') s)
    (hs : subscripted slice false (.ref l) (.int i u) = operate [.ref l, .int i u] (getItem (.ref l) (.int i u)) := by with_unfolding_all rfl) :
    wpAny (model prog w) A (subscriptTail value slice (.ref l) (.int i u)) Q E s := by
  have hlt : i.toNat < ns.length := by omega
  obtain ⟨t', e⟩ := hw.get i.toNat (ns.getD i.toNat 0) (by rw [List.getD_eq_getElem?_getD, List.getElem?_eq_getElem hlt]; rfl)
  exact tail_any hl.typeIs slot_list_getitem.lookup (wpAny_getItem_list hl h0 hfit (x := .int _ t') (by simpa using e) (h t')) hs
end
theorem worth_def (a : Int) : worth1 a = worthL.getD a.toNat 0 := by unfold worth1; rfl
noncomputable def rimZ (l : List Int) : List Int := l.map fun a => (worth1 a).fmod 3
theorem rim_get {l : List Int} {i : Nat} {k : Int} (e : l[i]? = some k) : (rimZ l).getD i 0 = (worthL.getD k.toNat 0).fmod 3 := by
  unfold rimZ
  rw [← worth_def, List.getD_eq_getElem?_getD, List.getElem?_map, e]
  rfl
theorem offs {c : Addr} {p : Addr × Obj} {r : List (Addr × Obj)} (h : @Ne Nat p.1 c) (hr : ∀ q ∈ r, q.1 ≠ c) : ∀ q ∈ p :: r, q.1 ≠ c := fun q hq => by
  rcases List.mem_cons.mp hq with rfl | hq
  · exact h
  · exact hr q hq
theorem store_led {prog : Program} {w : World} {A : Around} {E : Value → Shared → Prop} {s : Shared} {h₀ : Heap} {L : Addr} {m : Str → Option Value} {env : Env} {name : Str} {c : Addr} {o : Obj} {v : Value} {rest : List (Addr × Obj)} {Q : Unit → Shared → Prop} (hk : env.scope.kind = .function) (hl : env.kindOf name = some .cell) (hc : env.cells.lookup name = some c)
    (F : Fr h₀ L s.heap m) (N : News h₀ L s.heap ((c, o) :: rest)) (hd : o.data = .cell none) (off : ∀ p ∈ rest, p.1 ≠ c) (h : ∀ h' o', Fr h₀ L h' m → News h₀ L h' ((c, o') :: rest) → o'.data = .cell (some v) → Q () { s with heap := h' }) :
    wpAny (model prog w) A (storeName env name v) Q E s := by
  obtain ⟨hD, hDL, hD0⟩ := N (c, o) (List.mem_cons_self ..)
  refine wpAny_storeName_cell hk hl hc ⟨o, hD, hd⟩ fun h' hv hs => ?_
  obtain ⟨o', ho', hd'⟩ := hv
  refine h h' o' (F.change hs hDL hD0) (fun p hp => ?_) hd'
  rcases List.mem_cons.mp hp with rfl | hp
  · exact ⟨ho', hDL, hD0⟩
  · have := N p (List.mem_cons_of_mem _ hp)
    exact ⟨(hs.2 _ (off p hp)).trans this.1, this.2⟩
section
variable {α : Type} {p a t1 t2 t3 t4 t5 t6 x1 x2 x3 x4 x5 c : α} {r : List α}
theorem g_drop6 (h : p ∈ a :: r) : p ∈ a :: t1 :: t2 :: t3 :: t4 :: t5 :: t6 :: r := by
  simp only [List.mem_cons] at h ⊢
  rcases h with h | h <;> simp [h]
theorem g_move (h : p ∈ c :: a :: x1 :: x2 :: x3 :: x4 :: x5 :: r) : p ∈ a :: x1 :: x2 :: x3 :: x4 :: x5 :: c :: r := by
  simp only [List.mem_cons] at h ⊢
  rcases h with h | h | h | h | h | h | h | h <;> simp [h]
theorem g_back (h : p ∈ a :: x1 :: x2 :: x3 :: x4 :: x5 :: c :: r) : p ∈ c :: a :: x1 :: x2 :: x3 :: x4 :: x5 :: r := by
  simp only [List.mem_cons] at h ⊢
  rcases h with h | h | h | h | h | h | h | h <;> simp [h]
end
theorem pickI {zs : List Value} {ks : List Int} {i : Nat} {v : Value} (h : IntsAre zs ks) (hb : ∀ k ∈ ks, 0 ≤ k ∧ k < 8) (hv : zs.toArray[i]? = some v) : ∃ k t, v = .int k t ∧ (0 ≤ k ∧ k < 8) ∧ ks[i]? = some k := by
  have hv' : zs[i]? = some v := by simpa using hv
  have hlt : i < zs.length := by
    rcases Nat.lt_or_ge i zs.length with h | h
    · exact h
    · rw [List.getElem?_eq_none h] at hv'; cases hv'
  have hlk : i < ks.length := by rw [← h.length]; exact hlt
  have hk : ks[i]? = some ks[i] := List.getElem?_eq_getElem hlk
  obtain ⟨t, e⟩ := h.get i _ hk
  exact ⟨_, t, Option.some.inj (hv'.symm.trans e), hb _ (List.getElem_mem _), hk⟩
local macro_rules | `(tactic| walk_at "subscriptTail") => `(tactic| (k_here; (with_reducible show wpAny _ _ (subscriptTail _ _ (Value.ref _) (Value.int _ _)) _ _ _); ktb_letter; k_dflt (refine item_ints (News.isList (by k_asm) (by k_mem)) (by assumption) (by omega) (by simp only [worthL, List.length_cons, List.length_nil]; omega) (by omega) ?_); intro _))
set_option maxRecDepth 100000 in
set_option maxHeartbeats 4000000 in
theorem segG1 (w : World) (mean : ExcName → Option Value) (mg mb : Str → Option Value) :
    ∀ (h₀ : Heap) (L fa : Nat) (cd : Value) (m : Str → Option Value) (s : Shared) (Q : Flow → Shared → Prop) (E : Value → Shared → Prop) (news : List (Addr × Obj)) (dr e1 e2 e3 wo : Nat) (wos : List Value) (q3 q7 : Obj) (a1 a2 a3 a4 a5 a6 a7 a8 a9 a10 a11 a12 : Int) (s1 s2 s3 s4 s5 s6 s7 s8 s9 s10 s11 s12 : Tok),
    Below callerA h₀ [] h₀ → Fr h₀ L s.heap m → (hd.heap_1 w.params).In h₀ → News h₀ L s.heap ((dr, LCg.lst [.ref e1, .ref e2, .ref e3]) :: (e3, LCg.lst [.int a9 s9, .int a10 s10, .int a11 s11, .int a12 s12]) :: (e2, LCg.lst [.int a5 s5, .int a6 s6, .int a7 s7, .int a8 s8]) :: (e1, LCg.lst [.int a1 s1, .int a2 s2, .int a3 s3, .int a4 s4]) :: (wo, listOf wos.toArray 0) :: (L + 1 + 1 + 1 + 1 + 1 + 1 + 1, q7) :: (L + 1 + 1 + 1, q3) :: news) → Top hd.view_1 (looseW hd.view_1 loose3) mean mg mb h₀ →
    m (Str.ofString "drawn") = some (.ref dr) → q3.data = .cell (some (.ref wo)) → q7.data = .cell none → IntsAre wos worthL → (∀ k ∈ [a1, a2, a3, a4, a8, a12, a11, a10, a9, a5], 0 ≤ k ∧ k < 8) →
    @Ne Nat wo (L + 1 + 1 + 1 + 1 + 1 + 1 + 1) → @Ne Nat dr (L + 1 + 1 + 1 + 1 + 1 + 1 + 1) → @Ne Nat e1 (L + 1 + 1 + 1 + 1 + 1 + 1 + 1) → @Ne Nat e2 (L + 1 + 1 + 1 + 1 + 1 + 1 + 1) → @Ne Nat e3 (L + 1 + 1 + 1 + 1 + 1 + 1 + 1) → (∀ p ∈ news, p.1 ≠ L + 1 + 1 + 1 + 1 + 1 + 1 + 1) →
    (∀ (rm : Nat) (rms : List Value) (h' : Heap) (tk' : Nat) (q7' : Obj), IntsAre rms (rimZ [a1, a2, a3, a4, a8, a12, a11, a10, a9, a5]) → q7'.data = .cell (some (.ref rm)) → Fr h₀ L h' m → News h₀ L h' ((rm, LCg.lst rms) :: (dr, LCg.lst [.ref e1, .ref e2, .ref e3]) :: (e3, LCg.lst [.int a9 s9, .int a10 s10, .int a11 s11, .int a12 s12]) :: (e2, LCg.lst [.int a5 s5, .int a6 s6, .int a7 s7, .int a8 s8]) :: (e1, LCg.lst [.int a1 s1, .int a2 s2, .int a3 s3, .int a4 s4]) :: (wo, listOf wos.toArray 0) :: (L + 1 + 1 + 1 + 1 + 1 + 1 + 1, q7') :: (L + 1 + 1 + 1, q3) :: news) → Q .next { s with heap := h', toks := tk' }) →
    wpAny (model PySem.Challenge.rw_st0008_01.row.prog w) (callerA.deeper (lawEnv L fa cd)) (execs ((lawBody.drop 21).take 1) (lawEnv L fa cd)) Q E s := by
  k_fill
  intro h₀ L fa cd m s Q E news dr e1 e2 e3 wo wos q3 q7 a1 a2 a3 a4 a5 a6 a7 a8 a9 a10 a11 a12 s1 s2 s3 s4 s5 s6 s7 s8 s9 s10 s11 s12 B F X N T hm1 d3 d7 hwo hb hl1 hl2 hl3 hl4 hl5 hl6 hret
  rw [peel1 hm1] at F
  show wpAny _ _ (execs (_ :: []) _) _ _ _
  ktr_step
  refine Held.mk ?_
  have hzI : IntsAre [.int a1 s1, .int a2 s2, .int a3 s3, .int a4 s4, .int a8 s8, .int a12 s12, .int a11 s11, .int a10 s10, .int a9 s9, .int a5 s5] [a1, a2, a3, a4, a8, a12, a11, a10, a9, a5] := by repeat constructor
  refine compRest_pure (fun i y => ∃ t : Tok, y = Value.int ((rimZ [a1, a2, a3, a4, a8, a12, a11, a10, a9, a5]).getD i 0) t) (Or.inr ⟨_, List.mem_cons_self .., rfl, _, rfl⟩) ?_ ?_
  · intro i ys hi v I oI C oC D mm h tk E' hv hC hx F N
    obtain ⟨k, t, rfl, hk, e⟩ := pickI hzI hb hv
    ktr_step
    exact ⟨_, _, rfl, by k_asm, by k_asm, _, by rw [rim_get e]⟩
  intro rms hl hR
  have hrms := ints_pt (zs := rimZ [a1, a2, a3, a4, a8, a12, a11, a10, a9, a5]) (by rw [hl]; rfl) hR
  clear hl hR hzI
  unfold LCg.FinE
  intro D' h' tk' F' N' o1'
  have N2 := News.perm N' (news' := (L + 1 + 1 + 1 + 1 + 1 + 1 + 1, q7) :: (D', LCg.lst rms) :: (dr, LCg.lst [.ref e1, .ref e2, .ref e3]) :: (e3, LCg.lst [.int a9 s9, .int a10 s10, .int a11 s11, .int a12 s12]) :: (e2, LCg.lst [.int a5 s5, .int a6 s6, .int a7 s7, .int a8 s8]) :: (e1, LCg.lst [.int a1 s1, .int a2 s2, .int a3 s3, .int a4 s4]) :: (wo, listOf wos.toArray 0) :: (L + 1 + 1 + 1, q3) :: news) (fun p hp => g_drop6 (g_move hp))
  have hD7 : @Ne Nat D' (L + 1 + 1 + 1 + 1 + 1 + 1 + 1) := (off1_mem o1' (L + 1 + 1 + 1 + 1 + 1 + 1 + 1, q7) (by k_mem)).symm
  clear N' o1'
  dsimp only
  rw [← peel1 hm1] at F'
  refine store_led (by rfl) (by rfl) (by rfl) F' N2 d7 (offs hD7 (offs hl2 (offs hl5 (offs hl4 (offs hl3 (offs hl1 (offs (by omega) hl6))))))) fun h2 o2 F2 N3 d2 => ?_
  clear F' N2
  ktr_step
  rename Fr _ _ _ _ => lF
  rename News _ _ _ _ => lN
  exact hret _ rms _ _ _ hrms d2 lF (News.perm lN (fun p hp => g_back hp))
end Mine
end
local macro_rules | `(tactic| walk_at "subscriptTail") => `(tactic| (k_here; (with_reducible show wpAny _ _ (subscriptTail _ _ (Value.ref _) (Value.int _ _)) _ _ _); ktb_letter; k_dflt (refine item_ints (News.isList (by k_asm) (by k_mem)) (by assumption) (by omega) (by simp only [worthL, List.length_cons, List.length_nil]; omega) (by omega) ?_); intro _))
section
-- SegG2
example : True := by
  w_top off
  trivial
open PySem PySem.W PyProof.Rows PySem.Spec PySem.Calls
namespace Mine
noncomputable def TupI (o : Obj) (ab : Int × Int) : Prop := ∃ (t t' : Tok) (n : Nat), o = { cls := .type "tuple", data := .seq #[.int ab.1 t, .int ab.2 t'] n }
noncomputable def pairAt (rl : List Int) (k : Nat) : Int × Int := (rl.getD ((k + 9) % 10) 0, rl.getD k 0)
noncomputable def StepsJ (rl : List Int) (news : List (Addr × Obj)) (i : Nat) (ys : List Value) (nw : List (Addr × Obj)) : Prop :=
  ∃ dz : List (Addr × Obj), dz.length = i ∧ ys = dz.map (fun p => Value.ref p.1) ∧ nw = dz.reverse ++ news ∧ ∀ k p, dz[k]? = some p → TupI p.2 (pairAt rl k)
theorem steps_snoc {rl : List Int} {news : List (Addr × Obj)} {i : Nat} {ys : List Value} {nw : List (Addr × Obj)} (h : StepsJ rl news i ys nw) {D : Addr} {o : Obj} (hz : TupI o (pairAt rl i)) : StepsJ rl news (i + 1) (ys ++ [.ref D]) ((D, o) :: nw) := by
  obtain ⟨dz, hl, rfl, rfl, hr⟩ := h
  refine ⟨dz ++ [(D, o)], by simp [hl], by simp, by simp, fun k p hk => ?_⟩
  rcases Nat.lt_or_ge k dz.length with hlt | hge
  · rw [List.getElem?_append_left hlt] at hk
    exact hr k p hk
  · rw [List.getElem?_append_right hge] at hk
    have h0 : k - dz.length = 0 := by
      rcases Nat.lt_or_ge 0 (k - dz.length) with h1 | h1
      · rw [List.getElem?_eq_none (by show 1 ≤ _; omega)] at hk; cases hk
      · omega
    rw [h0] at hk
    have : p = (D, o) := by simpa using hk.symm
    subst this
    have e : k = i := by omega
    subst e
    exact hz
theorem steps_src {rl : List Int} {news : List (Addr × Obj)} {i : Nat} {ys : List Value} {nw : List (Addr × Obj)} (h : StepsJ rl news i ys nw) : ∀ p ∈ news, p ∈ nw := by
  obtain ⟨dz, _, _, rfl, _⟩ := h
  exact fun p hp => List.mem_append_right _ hp
section
variable {prog : Program} {w : World} {A : Around} {E : Value → Shared → Prop} {s : Shared}
theorem item_at' {value slice : PySem.Expr} {l : Addr} {vs : List Value} {i : Int} {u : Tok} {x : Value} {Q : Value → Shared → Prop} (hl : s.heap.IsList l vs.toArray) (he : (0 ≤ i ∧ vs[i.toNat]? = some x) ∨ (i < 0 ∧ -(vs.length : Int) ≤ i ∧ vs[(i + vs.length).toNat]? = some x)) (hlo : -(2 ^ 63) ≤ i) (hfit : i < 2 ^ 63) (h : Q x s)
    (hs : subscripted slice false (.ref l) (.int i u) = operate [.ref l, .int i u] (getItem (.ref l) (.int i u)) := by with_unfolding_all rfl) :
    wpAny (model prog w) A (subscriptTail value slice (.ref l) (.int i u)) Q E s := by
  rcases he with ⟨h0, he⟩ | ⟨h0, h1, he⟩
  · exact tail_any hl.typeIs slot_list_getitem.lookup (wpAny_getItem_list hl h0 hfit (by simpa using he) h) hs
  · exact tail_any hl.typeIs slot_list_getitem.lookup (wpAny_getItem_list_neg hl h0 (by simpa using h1) hlo (by simpa using he) h) hs
end
local macro_rules | `(tactic| walk_at "CompSrc") => `(tactic| (k_here; k_dflt (refine LCg.CompSrc.range (by rfl) (by k_asm) (by k_asm) (by assumption) (by first | decide | rfl) (by first | rfl | decide) (by first | size_fits | exact Nat.le_of_ble_eq_true rfl) ?_; intro g')))
local macro_rules | `(tactic| walk_at "subscriptTail") => `(tactic| (k_here; (with_reducible show wpAny _ _ (subscriptTail _ _ (Value.ref _) (Value.int _ _)) _ _ _); (rename News _ _ _ _ => lN'); k_dflt (refine item_at' (News.isList lN' (.tail _ (.tail _ (.tail _ (by assumption))))) (by first | assumption | exact Or.inl ⟨by omega, by assumption⟩) (by omega) (by omega) ?_)))
theorem rim_pick {r0 r1 r2 r3 r4 r5 r6 r7 r8 r9 : Int} {t0 t1 t2 t3 t4 t5 t6 t7 t8 t9 : Tok} (i : Nat) (hi : i < 10) : ∃ (a b : Int) (ta tb : Tok), pairAt [r0, r1, r2, r3, r4, r5, r6, r7, r8, r9] i = (a, b) ∧ ((0 ≤ (0 : Int) + i ∧ ([.int r0 t0, .int r1 t1, .int r2 t2, .int r3 t3, .int r4 t4, .int r5 t5, .int r6 t6, .int r7 t7, .int r8 t8, .int r9 t9] : List Value)[((0 : Int) + i).toNat]? = some (.int b tb)) ∨ ((0 : Int) + i < 0 ∧ -((([.int r0 t0, .int r1 t1, .int r2 t2, .int r3 t3, .int r4 t4, .int r5 t5, .int r6 t6, .int r7 t7, .int r8 t8, .int r9 t9] : List Value)).length : Int) ≤ 0 + i ∧ ([.int r0 t0, .int r1 t1, .int r2 t2, .int r3 t3, .int r4 t4, .int r5 t5, .int r6 t6, .int r7 t7, .int r8 t8, .int r9 t9] : List Value)[((0 : Int) + i + (([.int r0 t0, .int r1 t1, .int r2 t2, .int r3 t3, .int r4 t4, .int r5 t5, .int r6 t6, .int r7 t7, .int r8 t8, .int r9 t9] : List Value)).length).toNat]? = some (.int b tb))) ∧
    ((0 ≤ (0 : Int) + i - 1 ∧ ([.int r0 t0, .int r1 t1, .int r2 t2, .int r3 t3, .int r4 t4, .int r5 t5, .int r6 t6, .int r7 t7, .int r8 t8, .int r9 t9] : List Value)[((0 : Int) + i - 1).toNat]? = some (.int a ta)) ∨ ((0 : Int) + i - 1 < 0 ∧ -((([.int r0 t0, .int r1 t1, .int r2 t2, .int r3 t3, .int r4 t4, .int r5 t5, .int r6 t6, .int r7 t7, .int r8 t8, .int r9 t9] : List Value)).length : Int) ≤ 0 + i - 1 ∧ ([.int r0 t0, .int r1 t1, .int r2 t2, .int r3 t3, .int r4 t4, .int r5 t5, .int r6 t6, .int r7 t7, .int r8 t8, .int r9 t9] : List Value)[((0 : Int) + i - 1 + (([.int r0 t0, .int r1 t1, .int r2 t2, .int r3 t3, .int r4 t4, .int r5 t5, .int r6 t6, .int r7 t7, .int r8 t8, .int r9 t9] : List Value)).length).toNat]? = some (.int a ta))) := by
  match i, hi with
  | 0, _ => exact ⟨r9, r0, t9, t0, rfl, Or.inl ⟨by decide, rfl⟩, Or.inr ⟨by decide, by show (-10 : Int) ≤ 0 + (0 : Nat) - 1; decide, rfl⟩⟩
  | 1, _ => exact ⟨r0, r1, t0, t1, rfl, Or.inl ⟨by decide, rfl⟩, Or.inl ⟨by decide, rfl⟩⟩
  | 2, _ => exact ⟨r1, r2, t1, t2, rfl, Or.inl ⟨by decide, rfl⟩, Or.inl ⟨by decide, rfl⟩⟩
  | 3, _ => exact ⟨r2, r3, t2, t3, rfl, Or.inl ⟨by decide, rfl⟩, Or.inl ⟨by decide, rfl⟩⟩
  | 4, _ => exact ⟨r3, r4, t3, t4, rfl, Or.inl ⟨by decide, rfl⟩, Or.inl ⟨by decide, rfl⟩⟩
  | 5, _ => exact ⟨r4, r5, t4, t5, rfl, Or.inl ⟨by decide, rfl⟩, Or.inl ⟨by decide, rfl⟩⟩
  | 6, _ => exact ⟨r5, r6, t5, t6, rfl, Or.inl ⟨by decide, rfl⟩, Or.inl ⟨by decide, rfl⟩⟩
  | 7, _ => exact ⟨r6, r7, t6, t7, rfl, Or.inl ⟨by decide, rfl⟩, Or.inl ⟨by decide, rfl⟩⟩
  | 8, _ => exact ⟨r7, r8, t7, t8, rfl, Or.inl ⟨by decide, rfl⟩, Or.inl ⟨by decide, rfl⟩⟩
  | 9, _ => exact ⟨r8, r9, t8, t9, rfl, Or.inl ⟨by decide, rfl⟩, Or.inl ⟨by decide, rfl⟩⟩
set_option maxRecDepth 100000 in
set_option maxHeartbeats 4000000 in
theorem segG2 (w : World) (mean : ExcName → Option Value) (mg mb : Str → Option Value) :
    ∀ (h₀ : Heap) (L fa : Nat) (cd : Value) (m : Str → Option Value) (s : Shared) (Q : Flow → Shared → Prop) (E : Value → Shared → Prop) (news : List (Addr × Obj)) (rm : Nat) (q7 : Obj) (r0 r1 r2 r3 r4 r5 r6 r7 r8 r9 : Int) (t0 t1 t2 t3 t4 t5 t6 t7 t8 t9 : Tok),
    Below callerA h₀ [] h₀ → Fr h₀ L s.heap m → (hd.heap_1 w.params).In h₀ → News h₀ L s.heap ((rm, LCg.lst [.int r0 t0, .int r1 t1, .int r2 t2, .int r3 t3, .int r4 t4, .int r5 t5, .int r6 t6, .int r7 t7, .int r8 t8, .int r9 t9]) :: (L + 1 + 1 + 1 + 1 + 1 + 1 + 1, q7) :: news) → Top hd.view_1 (looseW hd.view_1 loose3) mean mg mb h₀ →
    q7.data = .cell (some (.ref rm)) →
    (∀ (st : Nat) (ys : List Value) (nw : List (Addr × Obj)) (m' : Str → Option Value) (h' : Heap) (tk' : Nat), StepsJ [r0, r1, r2, r3, r4, r5, r6, r7, r8, r9] ((rm, LCg.lst [.int r0 t0, .int r1 t1, .int r2 t2, .int r3 t3, .int r4 t4, .int r5 t5, .int r6 t6, .int r7 t7, .int r8 t8, .int r9 t9]) :: (L + 1 + 1 + 1 + 1 + 1 + 1 + 1, q7) :: news) 10 ys nw → m' (Str.ofString "steps") = some (.ref st) → (∀ y, y ≠ Str.ofString "steps" → m' y = m y) → Fr h₀ L h' m' → News h₀ L h' ((st, LCg.lst ys) :: nw) → LCg.Off1 st nw → Q .next { s with heap := h', toks := tk' }) →
    wpAny (model PySem.Challenge.rw_st0008_01.row.prog w) (callerA.deeper (lawEnv L fa cd)) (execs ((lawBody.drop 22).take 1) (lawEnv L fa cd)) Q E s := by
  k_fill
  intro h₀ L fa cd m s Q E news rm q7 r0 r1 r2 r3 r4 r5 r6 r7 r8 r9 t0 t1 t2 t3 t4 t5 t6 t7 t8 t9 B F X N T d7 hret
  show wpAny _ _ (execs (_ :: []) _) _ _ _
  ktr_step
  refine Held.mk ?_
  refine compRest_of 10 (StepsJ [r0, r1, r2, r3, r4, r5, r6, r7, r8, r9] ((rm, LCg.lst [.int r0 t0, .int r1 t1, .int r2 t2, .int r3 t3, .int r4 t4, .int r5 t5, .int r6 t6, .int r7 t7, .int r8 t8, .int r9 t9]) :: (L + 1 + 1 + 1 + 1 + 1 + 1 + 1, q7) :: news)) ?step ?fin _ 0 rfl [] _ ⟨[], rfl, rfl, rfl, fun k p h => by simp at h⟩
  case step =>
    intro i ys nw hi hJ v I oI C oC D mm h tk E' hv hC hx F N off ne
    obtain ⟨t, rfl⟩ := hv
    have hm7 := steps_src hJ (L + 1 + 1 + 1 + 1 + 1 + 1 + 1, q7) (.tail _ (.head _))
    have hmr := steps_src hJ (rm, LCg.lst [.int r0 t0, .int r1 t1, .int r2 t2, .int r3 t3, .int r4 t4, .int r5 t5, .int r6 t6, .int r7 t7, .int r8 t8, .int r9 t9]) (.head _)
    obtain ⟨a, b, ta, tb, hp, hb, ha⟩ := @rim_pick r0 r1 r2 r3 r4 r5 r6 r7 r8 r9 t0 t1 t2 t3 t4 t5 t6 t7 t8 t9 i hi
    ktr_step
    refine Held.mk ?_
    rename Fr _ _ _ _ => lF
    rename News _ _ _ _ => lN
    rename _ ∧ _ ∧ _ ∧ AllLt _ nw => lL
    refine ⟨_, _, (_, _) :: nw, rfl, lF, fun p hp => lN p (cb_turn4 hp), ⟨⟨Ne.symm (Nat.ne_of_lt lL.1), Ne.symm (Nat.ne_of_lt lL.2.1), Ne.symm (Nat.ne_of_lt lL.2.2.1)⟩, off⟩, trivial, steps_snoc hJ ?_⟩
    rw [hp]
    exact ⟨ta, tb, _, rfl⟩
  case fin =>
    intro ys nw hJ
    ktr_step
    rename Fr _ _ _ _ => lF
    rename News _ _ _ _ => lN
    refine' hret _ ys nw _ _ _ hJ ?e1 ?e2 lF lN (by assumption)
    case e1 => rfl
    case e2 => exact fun y hy => by simp only [if_neg hy]
end Mine
end
section
-- Cnt
example : True := by
  w_top off
  trivial
open PySem PySem.W PyProof.Rows PySem.Spec PySem.Calls
namespace Mine
noncomputable def pairsL (rl : List Int) : List (Int × Int) := (List.range 10).map (pairAt rl)
noncomputable def cntZ (rl : List Int) (a b : Int) : Nat := (pairsL rl).countP fun p => decide (p = (a, b))
section
variable {prog : Program} {w : World} {A : Around} {E : Value → Shared → Prop} {s : Shared} {h₀ : Heap} {L : Addr}
open Classical in
noncomputable def tupE (h : Heap) (a b : Int) (y : Value) : Bool := decide (∃ p t t' n, y = .ref p ∧ h.get? p = some { cls := .type "tuple", data := .seq #[.int a t, .int b t'] n })
open Classical in
theorem tupE_at {h : Heap} {p : Addr} {o : Obj} {a b c d : Int} (ho : h.get? p = some o) (hT : TupI o (c, d)) : tupE h a b (.ref p) = decide ((c, d) = (a, b)) := by
  obtain ⟨t, t', n, rfl⟩ := hT
  unfold tupE
  by_cases e : (c, d) = (a, b)
  · cases e
    rw [decide_eq_true ⟨p, t, t', n, rfl, ho⟩, decide_eq_true rfl]
  · rw [decide_eq_false e]
    refine decide_eq_false ?_
    rintro ⟨p', u, u', n', hp, hg⟩
    cases hp
    rw [ho] at hg
    apply e
    simp at hg
    obtain ⟨⟨⟨rfl, _⟩, rfl, _⟩, _⟩ := hg
    rfl
theorem tup_reads {h : Heap} {p : Addr} {o : Obj} {c d : Int} (ho : h.get? p = some o) (hT : TupI o (c, d)) : ∃ as, PySem.Reads h (.ref p) (.tuple [.int c, .int d]) as := by
  obtain ⟨t, t', n, rfl⟩ := hT
  exact ⟨_, reads_tuple_at ho rfl rfl (PySem.ReadsAll.cons (PySem.Reads.int _ _) (PySem.ReadsAll.cons (PySem.Reads.int _ _) PySem.ReadsAll.nil))⟩
theorem tup_eqv (a b c d : Int) : PyData.eqv (.tuple [.int c, .int d]) (.tuple [.int a, .int b]) = decide ((c, d) = (a, b)) := by
  by_cases h1 : c = a <;> by_cases h2 : d = b <;> simp [PyData.eqv, PyData.eqvAll, h1, h2]
theorem cnt_dz {h : Heap} {a b : Int} : ∀ (dz : List (Addr × Obj)) (ps : List (Int × Int)), dz.length = ps.length → (∀ p ∈ dz, h.get? p.1 = some p.2) → (∀ (k : Nat) (p : Addr × Obj) (q : Int × Int), dz[k]? = some p → ps[k]? = some q → TupI p.2 q) →
    (dz.map fun p => Value.ref p.1).countP (tupE h a b) = ps.countP fun p => decide (p = (a, b))
  | [], [], _, _, _ => rfl
  | [], _ :: _, h, _, _ => by simp at h
  | _ :: _, [], h, _, _ => by simp at h
  | p :: dz, q :: ps, hl, hg, hT => by
    rw [List.map_cons, List.countP_cons, List.countP_cons, cnt_dz dz ps (by simpa using hl) (fun p hp => hg p (.tail _ hp)) (fun k p q hp hq => hT (k + 1) p q (by simpa using hp) (by simpa using hq)),
      tupE_at (hg p (.head _)) (hT 0 p q rfl rfl)]
theorem count_steps {rl : List Int} {base nw led : List (Addr × Obj)} {ys : List Value} {st T : Addr} {oT : Obj} {a b : Int} {Q : Value → Shared → Prop} (hJ : StepsJ rl base 10 ys nw) (N : News h₀ L s.heap led) (hst : (st, LCg.lst ys) ∈ led) (hT : (T, oT) ∈ led) (hTI : TupI oT (a, b)) (hsub : ∀ p ∈ nw, p ∈ led)
    (hu : A.in1.units + 64 < cLine) (h : ∀ t, Q (.int (cntZ rl a b : Nat) t) { s with toks := s.toks + 1 }) : wpAny (model prog w) A (call (.builtin "list.count") [.ref st, .ref T]) Q E s := by
  obtain ⟨dz, hl, rfl, rfl, hr⟩ := hJ
  have hg : ∀ p ∈ dz, s.heap.get? p.1 = some p.2 := fun p hp => (N p (hsub p (List.mem_append_left _ (List.mem_reverse.mpr hp)))).1
  have ho := (N _ hst).1
  obtain ⟨bs, rb⟩ := tup_reads (N _ hT).1 hTI
  refine call_meets PySem.F.slot_list_count ⟨_, ho, rfl⟩ PySem.F.entry_list_count (PySem.F.args_list_count_2 _ _) (SeqAt.list_countAt st _ _ _ _ (.ref T) (tupE s.heap a b)) ⟨ho, fun y hy => ?_, ?_⟩
  · have hy' : y ∈ dz.map fun p => Value.ref p.1 := by simpa using hy
    obtain ⟨p, hp, rfl⟩ := List.mem_map.mp hy'
    obtain ⟨k, hk⟩ := List.getElem?_of_mem hp
    have hTp := hr k p hk
    obtain ⟨as, ra⟩ := tup_reads (hg p hp) hTp
    rw [tupE_at (hg p hp) hTp, ← tup_eqv]
    exact keq_at ra rb rfl rfl hu
  · have e := cnt_dz (h := s.heap) (a := a) (b := b) dz (pairsL rl) (by rw [hl]; rfl) hg (fun k p q hp hq => by
      have hk := hr k p hp
      have : pairAt rl k = q := by
        have hlt : k < 10 := by rw [← hl]; exact (List.getElem?_eq_some_iff.mp hp).1
        have hq' : (pairsL rl)[k]? = some (pairAt rl k) := by unfold pairsL; rw [List.getElem?_map, List.getElem?_range hlt]; rfl
        exact Option.some.inj (hq'.symm.trans hq)
      rw [← this]
      exact hk)
    rw [show (dz.map fun p => Value.ref p.1).toArray.toList = dz.map fun p => Value.ref p.1 from rfl, e]
    exact h _
end
end Mine
end
section
-- SegG3
example : True := by
  w_top off
  trivial
open PySem PySem.W PyProof.Rows PySem.Spec PySem.Calls
namespace Mine
theorem ite_no {c : Prop} [Decidable c] {A B : Prop} (h : ¬ c) (b : B) : (if c then A else B) := by
  rw [if_neg h]; exact b
local macro_rules | `(tactic| walk_at "ite") => `(tactic| first
  | k_dflt (refine ite_no (fun hn => hn (by assumption)) ?_)
  | k_dflt (refine ite_no (fun hn => (of_decide_eq_true hn) (by assumption)) ?_)
  | k_dflt (refine ite_no (fun hn => (bne_iff_ne.mp hn) (by assumption)) ?_))
theorem count_method {prog : Program} {w : World} {A : Around} {E : Value → Shared → Prop} {s : Shared} {h₀ : Heap} {L : Addr} {led : List (Addr × Obj)} {l : Addr} {ys : List Value} {pl : Sem Bool} {Q : Value × List Value → Shared → Prop} (N : News h₀ L s.heap led) (hm : (l, LCg.lst ys) ∈ led) (h : Q (.builtin "list.count", [.ref l]) s) :
    wpAny (model prog w) A (getMethod (.ref l) (Str.ofString "count") pl) Q E s :=
  getMethod_list_of PySem.F.slot_list_count PySem.F.type_list_count (News.isList N hm) ⟨_, (N _ hm).1, rfl⟩ h
local macro_rules | `(tactic| walk_at "getMethod ref") => `(tactic| (k_here; (with_reducible show wpAny _ _ (getMethod (Value.ref _) (Str.ofString "count") _) _ _ _); (rename News _ _ _ _ => lN'); k_dflt (refine count_method lN' (by first | exact .tail _ (.head _) | exact .tail _ (.tail _ (.head _))) ?_)))
theorem unr_off4 {I st : Addr} {o : Obj} {nw : List (Addr × Obj)} (h : st < I ∧ ∀ p ∈ nw, p.1 < I) : ∀ p ∈ (st, o) :: nw, p.1 ≠ I := fun p hp => by
  rcases List.mem_cons.mp hp with rfl | hp
  · exact Nat.ne_of_lt h.1
  · exact Nat.ne_of_lt (h.2 p hp)
theorem unr_off5 {I : Addr} : ∀ {l : List (Addr × Obj)}, AllLt I l → ∀ p ∈ l, p.1 ≠ I
  | [], _, _, hp => nomatch hp
  | _ :: _, h, p, hp => by
    rcases List.mem_cons.mp hp with rfl | hp
    · exact Nat.ne_of_lt h.1
    · exact unr_off5 h.2 p hp
local macro_rules | `(tactic| walk_at "UnrEnd") => `(tactic| (k_here; (rename Fr _ _ _ _ => lF'); (rename News _ _ _ _ => lN'); k_dflt (refine UnrEnd.intro lF' lN' _ (fun _ hp => .tail _ (.tail _ hp)) (by first | exact unr_off5 (by assumption) | exact unr_off4 (by assumption)) ?_); clear lF' lN'))
local macro_rules | `(tactic| walk_at "call builtin:list.count") => `(tactic| (k_here; (with_reducible show wpAny _ _ (call (Value.builtin _) [Value.ref _, Value.ref _]) _ _ _); (rename StepsJ _ _ _ _ _ => lJ'); (rename News _ _ _ _ => lN'); k_dflt (refine count_steps lJ' lN' (by first | exact .tail _ (.tail _ (.head _)) | exact .tail _ (.tail _ (.tail _ (.head _)))) (.head _) ⟨_, _, _, rfl⟩ (by first | exact fun _ hp => .tail _ (.tail _ (.tail _ hp)) | exact fun _ hp => .tail _ (.tail _ (.tail _ (.tail _ hp)))) (by ke_room) ?_); intro _))
set_option maxRecDepth 100000 in
set_option maxHeartbeats 4000000 in
theorem segG3 (w : World) (mean : ExcName → Option Value) (mg mb : Str → Option Value) :
    ∀ (h₀ : Heap) (L fa : Nat) (cd : Value) (m : Str → Option Value) (s : Shared) (Q : Flow → Shared → Prop) (E : Value → Shared → Prop) (base nw : List (Addr × Obj)) (st : Nat) (ys : List Value) (rl : List Int) (full : Int) (tf : Tok),
    Below callerA h₀ [] h₀ → Fr h₀ L s.heap m → (hd.heap_1 w.params).In h₀ → News h₀ L s.heap ((st, LCg.lst ys) :: nw) → Top hd.view_1 (looseW hd.view_1 loose3) mean mg mb h₀ →
    PassesOwn (model PySem.Challenge.rw_st0008_01.row.prog w) (callerA.deeper (lawEnv L fa cd)) (lawEnv L fa cd) E →
    StepsJ rl base 10 ys nw → m (Str.ofString "steps") = some (.ref st) → m (Str.ofString "full") = some (.int full tf) →
    ((cntZ rl 0 1 : Nat) : Int) - (cntZ rl 1 0 : Nat) = full → ((cntZ rl 1 2 : Nat) : Int) - (cntZ rl 2 1 : Nat) = full → ((cntZ rl 2 0 : Nat) : Int) - (cntZ rl 0 2 : Nat) = full →
    (∀ (m' : Str → Option Value) (h' : Heap) (tk' : Nat), (∀ y, y ≠ Str.ofString "k" → y ≠ Str.ofString "after" → m' y = m y) → Fr h₀ L h' m' → News h₀ L h' ((st, LCg.lst ys) :: nw) → Q .next { s with heap := h', toks := tk' }) →
    wpAny (model PySem.Challenge.rw_st0008_01.row.prog w) (callerA.deeper (lawEnv L fa cd)) (execs ((lawBody.drop 23).take 1) (lawEnv L fa cd)) Q E s := by
  k_fill
  intro h₀ L fa cd m s Q E base nw st ys rl full tf B F X N T hE hJ hm1 hm2 c1 c2 c3 hret
  rw [peel2 hm1 hm2] at F
  show wpAny _ _ (execs (_ :: []) _) _ _ _
  ktr_step
  rename Fr _ _ _ _ => lF
  rename News _ _ _ _ => lN
  refine' hret _ _ _ ?e2 lF lN
  case e2 => exact fun y h1 h2 => by simp only [if_neg h1, if_neg h2]; exact (congrFun (peel2 hm1 hm2) y).symm
end Mine
end
section
-- SegG4
example : True := by
  w_top off
  trivial
open PySem PySem.W PyProof.Rows PySem.Spec PySem.Calls
namespace Mine
theorem ints_reads {h : Heap} {h₀ : Heap} {L : Addr} {led : List (Addr × Obj)} (N : News h₀ L h led) {a : Addr} {zs : List Value} {ns : List Int} (hm : (a, LCg.lst zs) ∈ led) (hi : IntsAre zs ns) : ∃ as, PySem.Reads h (.ref a) (.list (ns.map PyData.int)) as := by
  have key : ∀ {zs : List Value} {ns : List Int}, IntsAre zs ns → PySem.ReadsAll h zs (ns.map PyData.int) [] := by
    intro zs ns hi
    induction hi with
    | nil => exact .nil
    | cons k t _ ih => exact readsAll_cons_val (PySem.Reads.int _ _) ih
  exact ⟨_, reads_list_at (N _ hm).1 rfl rfl (key hi)⟩
theorem grid_reads {h : Heap} {h₀ : Heap} {L : Addr} {led : List (Addr × Obj)} (N : News h₀ L h led) {g a b c : Addr} {za zb zc : List Value} {la lb lc : List Int} (hg : (g, LCg.lst [.ref a, .ref b, .ref c]) ∈ led) (ha : (a, LCg.lst za) ∈ led) (hb : (b, LCg.lst zb) ∈ led) (hc : (c, LCg.lst zc) ∈ led)
    (ia : IntsAre za la) (ib : IntsAre zb lb) (ic : IntsAre zc lc) : ∃ as, PySem.Reads h (.ref g) (.list [.list (la.map PyData.int), .list (lb.map PyData.int), .list (lc.map PyData.int)]) as := by
  obtain ⟨xa, ra⟩ := ints_reads N ha ia
  obtain ⟨xb, rb⟩ := ints_reads N hb ib
  obtain ⟨xc, rc⟩ := ints_reads N hc ic
  exact ⟨_, reads_list_at (N _ hg).1 rfl rfl (PySem.ReadsAll.cons ra (PySem.ReadsAll.cons rb (PySem.ReadsAll.cons rc PySem.ReadsAll.nil)))⟩
theorem eqv_self3 (a b c d e f g h i j k l : Int) : PyData.eqv (.list [.list ([a, b, c, d].map PyData.int), .list ([e, f, g, h].map PyData.int), .list ([i, j, k, l].map PyData.int)]) (.list [.list ([a, b, c, d].map PyData.int), .list ([e, f, g, h].map PyData.int), .list ([i, j, k, l].map PyData.int)]) = true := by
  simp [PyData.eqv, PyData.eqvAll]
theorem grid_three {W : List (List Int)} {news : List (Addr × Obj)} {ys : List Value} {nw : List (Addr × Obj)} (h : Grid W news 3 ys nw) : ∃ (a b c : Addr) (za zb zc : List Value), ys = [.ref a, .ref b, .ref c] ∧ nw = (c, LCg.lst zc) :: (b, LCg.lst zb) :: (a, LCg.lst za) :: news ∧
    IntsAre za ((W.getD 0 []).map worth1) ∧ IntsAre zb ((W.getD 1 []).map worth1) ∧ IntsAre zc ((W.getD 2 []).map worth1) := by
  obtain ⟨dz, hl, rfl, rfl, hr⟩ := h
  match dz, hl with
  | [(a, za), (b, zb), (c, zc)], _ => exact ⟨a, b, c, za, zb, zc, rfl, rfl, hr 0 _ rfl, hr 1 _ rfl, hr 2 _ rfl⟩
local macro_rules | `(tactic| k_all) => `(tactic| assumption)
local macro_rules | `(tactic| passes_own) => `(tactic| assumption)
local macro_rules | `(tactic| ktr_step) => `(tactic| repeat' (first | (k_unfold; (try dsimp only)) | walk1 | (dsimp only; walk1) | fail "no step"))
local macro_rules | `(tactic| walk_at "CompRest") => `(tactic| (refine Held.out ?_))
local macro_rules | `(tactic| walk_at "CompEnd") => `(tactic| (refine Held.out ?_))
local macro_rules | `(tactic| walk_at "eval ListComp") => `(tactic| (k_here; (with_reducible show wpAny _ _ (eval (Expr.ListComp _ [⟨Expr.Name _ _, _, [], 0⟩] _ _) _) _ _ _); k_dflt (refine LCg.ListComp_U (F₀ := by k_asm) (by with_unfolding_all rfl) (by decide) (by rfl) (by decide) (by rfl) ?_)))
local macro_rules | `(tactic| walk_at "CompSrc") => `(tactic| (k_here; k_dflt (refine LCg.CompSrc.ledger (by rfl) (by k_asm) (by k_asm) (by k_mem) (by first | size_fits | exact Nat.le_of_ble_eq_true rfl) ?_; intro g')))
local macro_rules | `(tactic| walk_at "FinE") => `(tactic| walk_at "LINE2")
local macro_rules | `(tactic| walk_at "subscriptTail") => `(tactic| (k_here; (with_reducible show wpAny _ _ (subscriptTail _ _ (Value.ref _) (Value.int _ _)) _ _ _); ktb_letter; k_dflt (refine item_ints (News.isList (by k_asm) (by k_mem)) (by assumption) (by omega) (by simp only [worthL, List.length_cons, List.length_nil]; omega) (by omega) ?_); intro _))
local macro_rules | `(tactic| walk_at "CompSrc") => `(tactic| (k_here; k_dflt (refine LCg.CompSrc.ledger (by rfl) (by k_asm) (by k_asm) (by first | exact .tail _ (.tail _ (.tail _ (by assumption))) | k_mem) (by first | size_fits | exact Nat.le_of_ble_eq_true rfl) ?_; intro g')))
local macro_rules | `(tactic| walk_at "eval Name") => `(tactic| (k_here; (with_reducible show wpAny _ _ (eval (Expr.Name _ _) (compEnvC _ _ (_ : Nat) (compEnvC _ _ _ _))) _ _ _); (rename News _ _ _ _ => lN'); k_dflt (refine kcf_cell lN' (by rfl) (.tail _ (.tail _ (.tail _ (.tail _ (.tail _ (.tail _ (by assumption))))))) (by assumption) ?_)))
local macro_rules | `(tactic| walk_at "subscriptTail") => `(tactic| (k_here; (with_reducible show wpAny _ _ (subscriptTail _ _ (Value.ref _) (Value.int _ _)) _ _ _); (rename News _ _ _ _ => lN'); k_dflt (refine item_ints (News.isList lN' (.tail _ (.tail _ (.tail _ (.tail _ (.tail _ (.tail _ (by assumption)))))))) (by assumption) (by omega) (by simp only [worthL, List.length_cons, List.length_nil]; omega) (by omega) ?_); intro _))
local macro_rules | `(tactic| walk_at "compareOp Eq ref ref") => `(tactic| (refine Held.out ?_))
theorem map_get {l : List Int} {i : Nat} {k : Int} (e : l[i]? = some k) : (l.map worth1).getD i 0 = worthL.getD k.toNat 0 := by
  rw [← worth_def, List.getD_eq_getElem?_getD, List.getElem?_map, e]
  rfl
set_option maxRecDepth 100000 in
set_option maxHeartbeats 4000000 in
theorem segG4 (w : World) (mean : ExcName → Option Value) (mg mb : Str → Option Value) :
    ∀ (h₀ : Heap) (L fa : Nat) (cd : Value) (m : Str → Option Value) (s : Shared) (Q : Flow → Shared → Prop) (E : Value → Shared → Prop) (news : List (Addr × Obj)) (gr d0 d1 d2 dr e1 e2 e3 wo : Nat) (wos : List Value) (q3 : Obj) (a1 a2 a3 a4 a5 a6 a7 a8 a9 a10 a11 a12 : Int) (s1 s2 s3 s4 s5 s6 s7 s8 s9 s10 s11 s12 t1 t2 t3 t4 t5 t6 t7 t8 t9 t10 t11 t12 : Tok),
    Below callerA h₀ [] h₀ → Fr h₀ L s.heap m → (hd.heap_1 w.params).In h₀ → News h₀ L s.heap ((gr, LCg.lst [.ref d0, .ref d1, .ref d2]) :: (d2, LCg.lst [.int (worth1 a9) t9, .int (worth1 a10) t10, .int (worth1 a11) t11, .int (worth1 a12) t12]) :: (d1, LCg.lst [.int (worth1 a5) t5, .int (worth1 a6) t6, .int (worth1 a7) t7, .int (worth1 a8) t8]) :: (d0, LCg.lst [.int (worth1 a1) t1, .int (worth1 a2) t2, .int (worth1 a3) t3, .int (worth1 a4) t4]) :: (dr, LCg.lst [.ref e1, .ref e2, .ref e3]) :: (e3, LCg.lst [.int a9 s9, .int a10 s10, .int a11 s11, .int a12 s12]) :: (e2, LCg.lst [.int a5 s5, .int a6 s6, .int a7 s7, .int a8 s8]) :: (e1, LCg.lst [.int a1 s1, .int a2 s2, .int a3 s3, .int a4 s4]) :: (wo, listOf wos.toArray 0) :: (L + 1 + 1 + 1, q3) :: news) → Top hd.view_1 (looseW hd.view_1 loose3) mean mg mb h₀ →
    m (Str.ofString "drawn") = some (.ref dr) → m (Str.ofString "grid") = some (.ref gr) → q3.data = .cell (some (.ref wo)) → IntsAre wos worthL → (∀ k ∈ [a1, a2, a3, a4, a5, a6, a7, a8, a9, a10, a11, a12], 0 ≤ k ∧ k < 8) →
    (∀ (h' : Heap) (tk' : Nat), Fr h₀ L h' m → News h₀ L h' [] → Q (.ret (.bool true)) { s with heap := h', toks := tk' }) →
    wpAny (model PySem.Challenge.rw_st0008_01.row.prog w) (callerA.deeper (lawEnv L fa cd)) (execs (lawBody.drop 24) (lawEnv L fa cd)) Q E s := by
  k_fill
  intro h₀ L fa cd m s Q E news gr d0 d1 d2 dr e1 e2 e3 wo wos q3 a1 a2 a3 a4 a5 a6 a7 a8 a9 a10 a11 a12 s1 s2 s3 s4 s5 s6 s7 s8 s9 s10 s11 s12 t1 t2 t3 t4 t5 t6 t7 t8 t9 t10 t11 t12 B F X N T hm1 hm2 d3 hwo hb hret
  rw [peel2 hm1 hm2] at F
  show wpAny _ _ (execs (_ :: []) _) _ _ _
  ktr_step
  refine Held.mk ?_
  refine compRest_of 3 (Grid [[a1, a2, a3, a4], [a5, a6, a7, a8], [a9, a10, a11, a12]] ((gr, LCg.lst [.ref d0, .ref d1, .ref d2]) :: (d2, LCg.lst [.int (worth1 a9) t9, .int (worth1 a10) t10, .int (worth1 a11) t11, .int (worth1 a12) t12]) :: (d1, LCg.lst [.int (worth1 a5) t5, .int (worth1 a6) t6, .int (worth1 a7) t7, .int (worth1 a8) t8]) :: (d0, LCg.lst [.int (worth1 a1) t1, .int (worth1 a2) t2, .int (worth1 a3) t3, .int (worth1 a4) t4]) :: (dr, LCg.lst [.ref e1, .ref e2, .ref e3]) :: (e3, LCg.lst [.int a9 s9, .int a10 s10, .int a11 s11, .int a12 s12]) :: (e2, LCg.lst [.int a5 s5, .int a6 s6, .int a7 s7, .int a8 s8]) :: (e1, LCg.lst [.int a1 s1, .int a2 s2, .int a3 s3, .int a4 s4]) :: (wo, listOf wos.toArray 0) :: (L + 1 + 1 + 1, q3) :: news)) ?step ?fin _ 0 rfl [] _ ⟨[], rfl, rfl, rfl, fun k p h => by simp at h⟩
  case step =>
    intro i ys nw hi hG v I oI C oC D mm h tk E' hv hC hx F N off ne
    have hdr' := grid_src hG (dr, LCg.lst [.ref e1, .ref e2, .ref e3]) (by k_mem)
    have he1 := grid_src hG (e1, LCg.lst [.int a1 s1, .int a2 s2, .int a3 s3, .int a4 s4]) (by k_mem)
    have he2 := grid_src hG (e2, LCg.lst [.int a5 s5, .int a6 s6, .int a7 s7, .int a8 s8]) (by k_mem)
    have he3 := grid_src hG (e3, LCg.lst [.int a9 s9, .int a10 s10, .int a11 s11, .int a12 s12]) (by k_mem)
    have hwo' := grid_src hG (wo, listOf wos.toArray 0) (by k_mem)
    have hq3' := grid_src hG (L + 1 + 1 + 1, q3) (by k_mem)
    rcases pick3 hv with ⟨rfl, rfl⟩ | ⟨rfl, rfl⟩ | ⟨rfl, rfl⟩
    · ktr_step
      refine Held.mk ?_
      refine compRest_pure (fun j y => ∃ t : Tok, y = Value.int (([a1, a2, a3, a4].map worth1).getD j 0) t) (Or.inr ⟨_, .tail _ (.tail _ (.tail _ (by assumption))), rfl, _, rfl⟩) ?_ ?_
      · intro j ys' hj v' I' oI' C' oC' D' mm' h' tk' E'' hv' hC' hx' F' N'
        obtain ⟨k, t, rfl, hk, e⟩ := pickI (zs := [.int a1 s1, .int a2 s2, .int a3 s3, .int a4 s4]) (ks := [a1, a2, a3, a4]) (by repeat constructor) (by first | assumption | (intro k hk; exact hb k (by simp only [List.mem_cons, List.not_mem_nil, or_false] at hk ⊢; rcases hk with rfl | rfl | rfl | rfl <;> simp))) hv'
        ktr_step
        exact ⟨_, _, rfl, by k_asm, by k_asm, _, by rw [map_get e]⟩
      intro zs hl hR
      have hzz := ints_pt (zs := [a1, a2, a3, a4].map worth1) (by rw [hl]; rfl) hR
      clear hl hR
      unfold LCg.FinE
      intro Dz h9 tk9 F9 N9 off9
      dsimp only
      ktr_step
      refine Held.mk ?_
      refine ⟨h9, tk9, (Dz, LCg.lst zs) :: nw, rfl, F9, ?_, ?_, ?_, ?_⟩
      · exact fun p hp => N9 p (cb_turn4 hp)
      · exact off3_cons off9 off
      · exact Or.inr ⟨_, List.mem_cons_of_mem _ hdr', rfl, _, rfl⟩
      · exact grid_snoc hG hzz
    · ktr_step
      refine Held.mk ?_
      refine compRest_pure (fun j y => ∃ t : Tok, y = Value.int (([a5, a6, a7, a8].map worth1).getD j 0) t) (Or.inr ⟨_, .tail _ (.tail _ (.tail _ (by assumption))), rfl, _, rfl⟩) ?_ ?_
      · intro j ys' hj v' I' oI' C' oC' D' mm' h' tk' E'' hv' hC' hx' F' N'
        obtain ⟨k, t, rfl, hk, e⟩ := pickI (zs := [.int a5 s5, .int a6 s6, .int a7 s7, .int a8 s8]) (ks := [a5, a6, a7, a8]) (by repeat constructor) (by first | assumption | (intro k hk; exact hb k (by simp only [List.mem_cons, List.not_mem_nil, or_false] at hk ⊢; rcases hk with rfl | rfl | rfl | rfl <;> simp))) hv'
        ktr_step
        exact ⟨_, _, rfl, by k_asm, by k_asm, _, by rw [map_get e]⟩
      intro zs hl hR
      have hzz := ints_pt (zs := [a5, a6, a7, a8].map worth1) (by rw [hl]; rfl) hR
      clear hl hR
      unfold LCg.FinE
      intro Dz h9 tk9 F9 N9 off9
      dsimp only
      ktr_step
      refine Held.mk ?_
      refine ⟨h9, tk9, (Dz, LCg.lst zs) :: nw, rfl, F9, ?_, ?_, ?_, ?_⟩
      · exact fun p hp => N9 p (cb_turn4 hp)
      · exact off3_cons off9 off
      · exact Or.inr ⟨_, List.mem_cons_of_mem _ hdr', rfl, _, rfl⟩
      · exact grid_snoc hG hzz
    · ktr_step
      refine Held.mk ?_
      refine compRest_pure (fun j y => ∃ t : Tok, y = Value.int (([a9, a10, a11, a12].map worth1).getD j 0) t) (Or.inr ⟨_, .tail _ (.tail _ (.tail _ (by assumption))), rfl, _, rfl⟩) ?_ ?_
      · intro j ys' hj v' I' oI' C' oC' D' mm' h' tk' E'' hv' hC' hx' F' N'
        obtain ⟨k, t, rfl, hk, e⟩ := pickI (zs := [.int a9 s9, .int a10 s10, .int a11 s11, .int a12 s12]) (ks := [a9, a10, a11, a12]) (by repeat constructor) (by first | assumption | (intro k hk; exact hb k (by simp only [List.mem_cons, List.not_mem_nil, or_false] at hk ⊢; rcases hk with rfl | rfl | rfl | rfl <;> simp))) hv'
        ktr_step
        exact ⟨_, _, rfl, by k_asm, by k_asm, _, by rw [map_get e]⟩
      intro zs hl hR
      have hzz := ints_pt (zs := [a9, a10, a11, a12].map worth1) (by rw [hl]; rfl) hR
      clear hl hR
      unfold LCg.FinE
      intro Dz h9 tk9 F9 N9 off9
      dsimp only
      ktr_step
      refine Held.mk ?_
      refine ⟨h9, tk9, (Dz, LCg.lst zs) :: nw, rfl, F9, ?_, ?_, ?_, ?_⟩
      · exact fun p hp => N9 p (cb_turn4 hp)
      · exact off3_cons off9 off
      · exact Or.inr ⟨_, List.mem_cons_of_mem _ hdr', rfl, _, rfl⟩
      · exact grid_snoc hG hzz
  case fin =>
    intro ys nw hG
    obtain ⟨fa1, fb1, fc1, za, zb, zc, rfl, rfl, ia, ib, ic⟩ := grid_three hG
    ktr_step
    refine Held.mk ?_
    rename Fr _ _ _ _ => lF
    rename News _ _ _ _ => lN
    obtain ⟨xs, rx⟩ := grid_reads lN (.tail _ (.tail _ (.tail _ (.tail _ (.head _))))) (.tail _ (.tail _ (.tail _ (.tail _ (.tail _ (.tail _ (.tail _ (.head _)))))))) (.tail _ (.tail _ (.tail _ (.tail _ (.tail _ (.tail _ (.head _))))))) (.tail _ (.tail _ (.tail _ (.tail _ (.tail _ (.head _)))))) (la := [worth1 a1, worth1 a2, worth1 a3, worth1 a4]) (lb := [worth1 a5, worth1 a6, worth1 a7, worth1 a8]) (lc := [worth1 a9, worth1 a10, worth1 a11, worth1 a12]) (by repeat constructor) (by repeat constructor) (by repeat constructor)
    obtain ⟨zs, rz⟩ := grid_reads lN (.head _) (.tail _ (.tail _ (.tail _ (.head _)))) (.tail _ (.tail _ (.head _))) (.tail _ (.head _)) (la := [worth1 a1, worth1 a2, worth1 a3, worth1 a4]) (lb := [worth1 a5, worth1 a6, worth1 a7, worth1 a8]) (lc := [worth1 a9, worth1 a10, worth1 a11, worth1 a12]) ia ib ic
    refine eq_dataH rx rz (by rfl) (by rfl) (by ke_room) ?_
    rw [show PyData.eqv _ _ = true from eqv_self3 (worth1 a1) (worth1 a2) (worth1 a3) (worth1 a4) (worth1 a5) (worth1 a6) (worth1 a7) (worth1 a8) (worth1 a9) (worth1 a10) (worth1 a11) (worth1 a12)]
    rw [← peel2 hm1 hm2] at lF
    exact hret _ _ lF (fun p hp => nomatch hp)
end Mine
end
end
section
-- PL1
example : True := by
  w_top off
  trivial
open PySem PySem.Builtin PySem.Builtin.Str PySem.StrLaws
namespace Mine
noncomputable abbrev codes (x : Str) : List Nat := x.cps.toList
theorem drop_cons {a : Array Nat} {s : Nat} (h : s < a.size) : a.toList.drop s = a.getD s 0 :: a.toList.drop (s + 1) := by
  rw [List.drop_eq_getElem_cons (by simpa using h)]
  simp [Array.getD, h]
theorem drop_ge {a : Array Nat} {s : Nat} (h : a.size ≤ s) : a.toList.drop s = [] := List.drop_eq_nil_of_le (by simpa using h)
theorem extract_codes (x : Str) (a b : Nat) : codes ⟨x.cps.extract a b⟩ = (x.cps.toList.drop a).take (b - a) := by
  show (x.cps.extract a b).toList = _
  rw [Array.toList_extract, List.extract_eq_drop_take]
/-- the pieces of sub, told by what is left to be told at each place -/
theorem pieces_eq {fnd : Nat → Option (Nat × Nat)} {x r : Str} (H : Nat → List Nat) (h0 : ∀ d, d ≤ x.cps.size → fnd d = none → H d = (codes x).drop d)
    (h1 : ∀ d p q, d ≤ x.cps.size → fnd d = some (p, q) → d < q ∧ q ≤ x.cps.size ∧ d ≤ p ∧ H d = ((codes x).drop d).take (p - d) ++ codes r ++ H q) :
    ∀ f d, d ≤ x.cps.size → x.cps.size - d < f → (subPieces fnd x r f d).flatMap codes = H d
  | 0, d, _, h => by omega
  | f + 1, d, hd, h => by
    unfold subPieces
    cases hf : fnd d with
    | none =>
      dsimp only
      rw [h0 d hd hf]
      split
      · rw [List.flatMap_cons, List.flatMap_nil, List.append_nil, extract_codes, List.take_of_length_le (by simp)]
      · rw [drop_ge (by omega)]; rfl
    | some pq =>
      obtain ⟨p, q⟩ := pq
      obtain ⟨hq1, hq2, hp, e⟩ := h1 d p q hd hf
      dsimp only
      rw [e, List.flatMap_append, List.flatMap_cons, pieces_eq H h0 h1 f q hq2 (by omega)]
      split
      · rw [List.flatMap_cons, List.flatMap_nil, List.append_nil, extract_codes, List.append_assoc]
      · rw [show p - d = 0 by omega]; simp
noncomputable def crlfS : Nat → List Nat → List Nat
  | _, [] => []
  | n + 1, _ :: r => crlfS n r
  | 0, c :: r => if c = 10 ∨ c = 13 then 13 :: 10 :: crlfS (if c = 13 ∧ r.head? = some 10 then 1 else 0) r else c :: crlfS 0 r
theorem crlf_c (c : Nat) (r : List Nat) : crlfS 0 (c :: r) = if c = 10 ∨ c = 13 then 13 :: 10 :: crlfS (if c = 13 ∧ r.head? = some 10 then 1 else 0) r else c :: crlfS 0 r := by rw [crlfS]
theorem crlf_s (n c : Nat) (r : List Nat) : crlfS (n + 1) (c :: r) = crlfS n r := by rw [crlfS]
theorem isNl_iff (c : Nat) : isNl c = true ↔ c = 10 ∨ c = 13 := by unfold isNl; simp
theorem crlf_nl {x : Str} : ∀ (fuel d : Nat), x.cps.size < fuel + d → (∀ p, nl2 x.cps fuel d = some p → crlfS 0 ((codes x).drop d) = ((codes x).drop d).take (p - d) ++ codes (Str.ofString "\r\n") ++ crlfS 0 ((codes x).drop (end2 x.cps p))) ∧ (nl2 x.cps fuel d = none → crlfS 0 ((codes x).drop d) = (codes x).drop d)
  | 0, d, h => ⟨fun p hp => (by cases hp), fun _ => by rw [drop_ge (by omega)]; rfl⟩
  | fuel + 1, d, h => by
    have ih := crlf_nl (x := x) fuel (d + 1) (by omega)
    unfold nl2
    by_cases hs : d < x.cps.size
    · rw [if_pos hs, drop_cons hs]
      by_cases hc : isNl (x.cps.getD d 0) = true
      · rw [if_pos hc]
        refine ⟨fun p hp => ?_, fun hp => by cases hp⟩
        cases hp
        have hc' := (isNl_iff _).mp hc
        rw [Nat.sub_self, List.take_zero, List.nil_append]
        have er : codes (Str.ofString "\r\n") = [13, 10] := rfl
        rw [er]
        rw [crlf_c, if_pos hc']
        unfold end2
        by_cases hd : x.cps.getD d 0 = 13 ∧ d + 1 < x.cps.size ∧ x.cps.getD (d + 1) 0 = 10
        · rw [if_pos hd, drop_cons hd.2.1, hd.2.2, if_pos ⟨hd.1, rfl⟩, crlf_s]
          rfl
        · rw [if_neg hd]
          have : ¬ (x.cps.getD d 0 = 13 ∧ (x.cps.toList.drop (d + 1)).head? = some 10) := by
            rintro ⟨h1, h2⟩
            by_cases h3 : d + 1 < x.cps.size
            · rw [drop_cons h3] at h2
              exact hd ⟨h1, h3, Option.some.inj h2⟩
            · rw [drop_ge (by omega)] at h2; cases h2
          rw [if_neg this]
          rfl
      · rw [if_neg hc]
        have hc' : ¬ (x.cps.getD d 0 = 10 ∨ x.cps.getD d 0 = 13) := fun h => hc ((isNl_iff _).mpr h)
        refine ⟨fun p hp => ?_, fun hp => ?_⟩
        · have hlt := nl2_lt hp
          have := ih.1 p hp
          rw [crlf_c, if_neg hc', this, show p - d = (p - (d + 1)) + 1 by omega, List.take_succ_cons]
          rfl
        · rw [crlf_c, if_neg hc', ih.2 hp]
    · rw [if_neg hs]
      exact ⟨fun p hp => (by cases hp), fun _ => by rw [drop_ge (by omega)]; rfl⟩
theorem crlf_sub (x : Str) : codes (subOf (fnd2 x) x (Str.ofString "\r\n")) = crlfS 0 (codes x) := by
  unfold subOf
  rw [codes, join_empty]
  refine pieces_eq (fun d => crlfS 0 ((codes x).drop d)) (fun d hd hf => ?_) (fun d p q hd hf => ?_) (x.cps.size + 1) 0 (Nat.zero_le _) (by omega)
  · unfold fnd2 at hf
    exact (crlf_nl (x := x) (x.cps.size + 1 - d) d (by omega)).2 (by cases hn : nl2 x.cps (x.cps.size + 1 - d) d with
      | none => rfl
      | some p => rw [hn] at hf; cases hf)
  · unfold fnd2 at hf
    cases hn : nl2 x.cps (x.cps.size + 1 - d) d with
    | none => rw [hn] at hf; cases hf
    | some p' =>
      rw [hn] at hf
      cases hf
      have hb := nl2_lt hn
      have he := end2_lt hb.2.1
      exact ⟨by omega, he.2, hb.1, (crlf_nl (x := x) (x.cps.size + 1 - d) d (by omega)).1 p hn⟩
noncomputable def dotS : Bool → List Nat → List Nat
  | _, [] => []
  | b, c :: r => if b = true ∧ c = 46 then 46 :: 46 :: dotS false r else c :: dotS (c == 10) r
theorem dot_c (b : Bool) (c : Nat) (r : List Nat) : dotS b (c :: r) = if b = true ∧ c = 46 then 46 :: 46 :: dotS false r else c :: dotS (c == 10) r := by rw [dotS]
noncomputable def bolAt (a : Array Nat) (d : Nat) : Bool := d == 0 || a.getD (d - 1) 0 == 10
theorem bol_next {a : Array Nat} {d : Nat} : bolAt a (d + 1) = (a.getD d 0 == 10) := by unfold bolAt; simp
theorem dot_is {a : Array Nat} {d : Nat} (h : d < a.size) : isDot a d = true ↔ bolAt a d = true ∧ a.getD d 0 = 46 := by
  unfold isDot bolAt
  simp [h]
theorem dot_nl {x : Str} : ∀ (fuel d : Nat), x.cps.size < fuel + d → (∀ p, dot1 x.cps fuel d = some p → dotS (bolAt x.cps d) ((codes x).drop d) = ((codes x).drop d).take (p - d) ++ codes (Str.ofString "..") ++ dotS (bolAt x.cps (p + 1)) ((codes x).drop (p + 1))) ∧ (dot1 x.cps fuel d = none → dotS (bolAt x.cps d) ((codes x).drop d) = (codes x).drop d)
  | 0, d, h => ⟨fun p hp => (by cases hp), fun _ => by rw [drop_ge (by omega)]; rfl⟩
  | fuel + 1, d, h => by
    have ih := dot_nl (x := x) fuel (d + 1) (by omega)
    unfold dot1
    by_cases hs : d < x.cps.size
    · by_cases hc : isDot x.cps d = true
      · rw [if_pos hc]
        have hb := (dot_is hs).mp hc
        refine ⟨fun p hp => ?_, fun hp => by cases hp⟩
        cases hp
        have er : codes (Str.ofString "..") = [46, 46] := rfl
        rw [drop_cons hs, Nat.sub_self, List.take_zero, List.nil_append, er, bol_next, hb.2]
        rw [dot_c, if_pos ⟨hb.1, rfl⟩]
        rfl
      · rw [if_neg hc, drop_cons hs]
        have hb : ¬ (bolAt x.cps d = true ∧ x.cps.getD d 0 = 46) := fun h => hc ((dot_is hs).mpr h)
        refine ⟨fun p hp => ?_, fun hp => ?_⟩
        · have hlt := dot1_lt hp
          have := ih.1 p hp
          rw [bol_next] at this
          rw [dot_c, if_neg hb, this, show p - d = (p - (d + 1)) + 1 by omega, List.take_succ_cons]
          rfl
        · have := ih.2 hp
          rw [bol_next] at this
          rw [dot_c, if_neg hb, this]
    · have hc : ¬ isDot x.cps d = true := fun h => hs (isDot_lt h)
      rw [if_neg hc]
      refine ⟨fun p hp => ?_, fun _ => by rw [drop_ge (by omega)]; rfl⟩
      have hlt := dot1_lt hp
      have := isDot_lt hlt.2
      omega
theorem dot_sub (x : Str) : codes (subOf (fnd1 x) x (Str.ofString "..")) = dotS true (codes x) := by
  unfold subOf
  rw [codes, join_empty]
  refine pieces_eq (fun d => dotS (bolAt x.cps d) ((codes x).drop d)) (fun d hd hf => ?_) (fun d p q hd hf => ?_) (x.cps.size + 1) 0 (Nat.zero_le _) (by omega)
  · unfold fnd1 at hf
    exact (dot_nl (x := x) (x.cps.size - d + 1) d (by omega)).2 (by cases hn : dot1 x.cps (x.cps.size - d + 1) d with
      | none => rfl
      | some p => rw [hn] at hf; cases hf)
  · unfold fnd1 at hf
    cases hn : dot1 x.cps (x.cps.size - d + 1) d with
    | none => rw [hn] at hf; cases hf
    | some p' =>
      rw [hn] at hf
      cases hf
      have hb := dot1_lt hn
      have he := isDot_lt hb.2
      exact ⟨by omega, by omega, hb.1, (dot_nl (x := x) (x.cps.size - d + 1) d (by omega)).1 p hn⟩
theorem quote_codes (x : Str) : codes (quoteOf x) = dotS true (crlfS 0 (codes x)) := by
  unfold quoteOf
  rw [dot_sub, crlf_sub]
/-- replacing and splitting, told on lists of codes -/
noncomputable def replS (y z : List Nat) : Nat → List Nat → List Nat
  | _, [] => []
  | n + 1, _ :: r => replS y z n r
  | 0, c :: r => if (c :: r).take y.length = y then z ++ replS y z (y.length - 1) r else c :: replS y z 0 r
noncomputable def splitS (y : List Nat) : Nat → List Nat → List (List Nat)
  | _, [] => [[]]
  | n + 1, _ :: r => splitS y n r
  | 0, c :: r => if (c :: r).take y.length = y then [] :: splitS y (y.length - 1) r else match splitS y 0 r with
    | [] => [[c]]
    | p :: ps => (c :: p) :: ps
theorem repl_skip (y z : List Nat) : ∀ (n : Nat) (l : List Nat), replS y z n l = replS y z 0 (l.drop n)
  | 0, l => rfl
  | n + 1, [] => rfl
  | n + 1, c :: r => by
    show replS y z n r = _
    rw [repl_skip y z n r]
    rfl
theorem split_skip (y : List Nat) : ∀ (n : Nat) (l : List Nat), splitS y n l = splitS y 0 (l.drop n)
  | 0, l => rfl
  | n + 1, [] => rfl
  | n + 1, c :: r => by
    show splitS y n r = _
    rw [split_skip y n r]
    rfl
theorem at_take {x y : Str} {i : Nat} (hy : 1 ≤ y.length) : At x y x.length i ↔ ((codes x).drop i).take (codes y).length = codes y := by
  have hl : (codes y).length = y.length := by show y.cps.toList.length = y.cps.size; simp
  unfold At
  rw [subAt_eq, hl]
  constructor
  · rintro ⟨_, h⟩
    exact eq_of_beq h
  · intro h
    refine ⟨?_, beq_iff_eq.mpr h⟩
    have h1 := congrArg List.length h
    rw [List.length_take, List.length_drop, hl] at h1
    have h2 : (codes x).length = x.length := by show x.cps.toList.length = x.cps.size; simp
    omega
end Mine
end
section
-- PL2
example : True := by
  w_top off
  trivial
open PySem PySem.Builtin PySem.Builtin.Str PySem.StrLaws
namespace Mine
theorem repl_c (y z : List Nat) (c : Nat) (r : List Nat) : replS y z 0 (c :: r) = if (c :: r).take y.length = y then z ++ replS y z (y.length - 1) r else c :: replS y z 0 r := by rw [replS]
theorem split_c (y : List Nat) (c : Nat) (r : List Nat) : splitS y 0 (c :: r) = if (c :: r).take y.length = y then [] :: splitS y (y.length - 1) r else match splitS y 0 r with | [] => [[c]] | p :: ps => (c :: p) :: ps := by first | (rw [splitS]; done) | (rw [splitS]; rfl)
section
variable {x y z : Str} (hy : 1 ≤ y.length)
theorem at_len {c : Nat} (h : At x y x.length c) : c + y.length ≤ x.cps.size := h.1
include hy
theorem no_at {c : Nat} (hc : c < x.cps.size) (h : ¬ At x y x.length c) : ¬ (x.cps.getD c 0 :: (codes x).drop (c + 1)).take (codes y).length = codes y := by
  rw [← drop_cons hc]
  exact fun e => h ((at_take hy).mpr e)
theorem repl_free : ∀ (n a : Nat), x.cps.size ≤ a + n → (∀ k, a ≤ k → ¬ At x y x.length k) → replS (codes y) (codes z) 0 ((codes x).drop a) = (codes x).drop a
  | 0, a, h, _ => by rw [drop_ge (by omega)]; rfl
  | n + 1, a, h, hn => by
    by_cases ha : a < x.cps.size
    · have ih := repl_free n (a + 1) (by omega) fun k hk => hn k (by omega)
      rw [drop_cons ha, repl_c, if_neg (no_at hy ha (hn a (Nat.le_refl _))), ih]
    · rw [drop_ge (by omega)]; rfl
theorem repl_pre : ∀ (n a c : Nat), a + n = c → c ≤ x.cps.size → (∀ k, a ≤ k → k < c → ¬ At x y x.length k) → replS (codes y) (codes z) 0 ((codes x).drop a) = ((codes x).drop a).take (c - a) ++ replS (codes y) (codes z) 0 ((codes x).drop c)
  | 0, a, c, h, _, _ => by
    have : a = c := h
    subst this
    rw [Nat.sub_self, List.take_zero, List.nil_append]
  | n + 1, a, c, h, hc, hn => by
    have ha : a < x.cps.size := by omega
    have ih := repl_pre n (a + 1) c (by omega) hc fun k hk hk2 => hn k (by omega) hk2
    rw [drop_cons ha, repl_c, if_neg (no_at hy ha (hn a (Nat.le_refl _) (by omega))), ih, show c - a = (c - (a + 1)) + 1 by omega, List.take_succ_cons, List.cons_append]
theorem repl_at {c : Nat} (h : At x y x.length c) : replS (codes y) (codes z) 0 ((codes x).drop c) = codes z ++ replS (codes y) (codes z) 0 ((codes x).drop (c + y.length)) := by
  have hl : (codes y).length = y.length := by show y.cps.toList.length = y.cps.size; simp
  have hc : c < x.cps.size := by have := at_len h; omega
  have e := (at_take hy).mp h
  rw [drop_cons hc] at e ⊢
  rw [repl_c, if_pos e, repl_skip, hl, List.drop_drop]
  congr 3
  omega
theorem repl_chain : ∀ (cuts : List Nat) (a f : Nat), a ≤ x.cps.size → ChainG x y x.length a cuts f → (∀ k, f ≤ k → ¬ At x y x.length k) → codes (Str.join z (partsFrom x y.length a cuts)) = replS (codes y) (codes z) 0 ((codes x).drop a)
  | [], a, f, ha, h, hn => by
    have e : f = a := h
    subst e
    rw [repl_free hy x.cps.size f (by omega) hn]
    show (strSub x f x.length).cps.toList = _
    rw [strSub_toList, List.take_of_length_le]
    rw [List.length_drop]
    show x.cps.toList.length - f ≤ x.cps.size - f
    simp
  | c :: r, a, f, ha, h, hn => by
    obtain ⟨hac, hA, hfree, hch⟩ := h
    have hlen := at_len hA
    have ih := repl_chain r (c + y.length) f hlen hch hn
    rw [repl_pre hy (c - a) a c (by omega) (by omega) hfree, repl_at hy hA, ← ih]
    obtain ⟨p, q, e⟩ := partsFrom_ne x y.length (c + y.length) r
    show codes (Str.join z (strSub x a c :: partsFrom x y.length (c + y.length) r)) = _
    rw [e]
    show (strSub x a c ++ z ++ Str.join z (p :: q)).cps.toList = _
    rw [Str.cps_append, Str.cps_append, Array.toList_append, Array.toList_append, strSub_toList, List.append_assoc]
theorem split_free' : ∀ (n a : Nat), x.cps.size ≤ a + n → (∀ k, a ≤ k → ¬ At x y x.length k) → splitS (codes y) 0 ((codes x).drop a) = [(codes x).drop a]
  | 0, a, h, _ => by rw [drop_ge (by omega)]; rfl
  | n + 1, a, h, hn => by
    by_cases ha : a < x.cps.size
    · have ih := split_free' n (a + 1) (by omega) fun k hk => hn k (by omega)
      rw [drop_cons ha, split_c, if_neg (no_at hy ha (hn a (Nat.le_refl _))), ih]
    · rw [drop_ge (by omega)]; rfl
theorem split_pre : ∀ (n a c : Nat) (p : List Nat) (ps : List (List Nat)), a + n = c → c ≤ x.cps.size → (∀ k, a ≤ k → k < c → ¬ At x y x.length k) → splitS (codes y) 0 ((codes x).drop c) = p :: ps → splitS (codes y) 0 ((codes x).drop a) = (((codes x).drop a).take (c - a) ++ p) :: ps
  | 0, a, c, p, ps, h, _, _, e => by
    have : a = c := h
    subst this
    rw [Nat.sub_self, List.take_zero, List.nil_append, e]
  | n + 1, a, c, p, ps, h, hc, hn, e => by
    have ha : a < x.cps.size := by omega
    have ih := split_pre n (a + 1) c p ps (by omega) hc (fun k hk hk2 => hn k (by omega) hk2) e
    rw [drop_cons ha, split_c, if_neg (no_at hy ha (hn a (Nat.le_refl _) (by omega))), ih, show c - a = (c - (a + 1)) + 1 by omega, List.take_succ_cons, List.cons_append]
theorem split_at {c : Nat} (h : At x y x.length c) : splitS (codes y) 0 ((codes x).drop c) = [] :: splitS (codes y) 0 ((codes x).drop (c + y.length)) := by
  have hl : (codes y).length = y.length := by show y.cps.toList.length = y.cps.size; simp
  have hc : c < x.cps.size := by have := at_len h; omega
  have e := (at_take hy).mp h
  rw [drop_cons hc] at e ⊢
  rw [split_c, if_pos e, split_skip, hl, List.drop_drop]
  congr 3
  omega
theorem split_chain : ∀ (cuts : List Nat) (a f : Nat), a ≤ x.cps.size → ChainG x y x.length a cuts f → (∀ k, f ≤ k → ¬ At x y x.length k) → (partsFrom x y.length a cuts).map codes = splitS (codes y) 0 ((codes x).drop a)
  | [], a, f, ha, h, hn => by
    have e : f = a := h
    subst e
    rw [split_free' hy x.cps.size f (by omega) hn]
    show [(strSub x f x.length).cps.toList] = _
    rw [strSub_toList, List.take_of_length_le]
    rw [List.length_drop]
    show x.cps.toList.length - f ≤ x.cps.size - f
    simp
  | c :: r, a, f, ha, h, hn => by
    obtain ⟨hac, hA, hfree, hch⟩ := h
    have hlen := at_len hA
    have ih := split_chain r (c + y.length) f hlen hch hn
    have e := split_at hy hA
    rw [← ih] at e
    rw [split_pre hy (c - a) a c [] _ (by omega) (by omega) hfree e, List.append_nil]
    show codes (strSub x a c) :: _ = _
    rw [codes, strSub_toList]
theorem replace_codes (x z : Str) : codes (Txt.replace x y z) = replS (codes y) (codes z) 0 (codes x) := by
  obtain ⟨f, hch, hn⟩ := occ_tight x y hy
  have key := repl_chain (z := z) hy _ 0 f (Nat.zero_le _) hch hn
  rw [List.drop_zero] at key
  rw [← key]
  have h0 : (y.length == 0) = false := by simp; omega
  unfold Txt.replace
  rw [h0, Bool.false_and, Bool.or_false]
  cases ho : occurrences x y 0 x.length (x.length + 1) with
  | nil =>
    show codes x = codes (strSub x 0 x.length)
    rw [sub_whole]
  | cons c r =>
    rw [if_neg (by simp), glued_eq_join, partsBetween_eq]
theorem split_codes (x : Str) (hk : strKind y = 1) : (Txt.split x y).map codes = splitS (codes y) 0 (codes x) := by
  obtain ⟨f, hch, hn⟩ := occ_tight x y hy
  have key := split_chain hy _ 0 f (Nat.zero_le _) hch hn
  rw [List.drop_zero] at key
  rw [← key]
  have hk2 : ¬ strKind x < strKind y := by
    rw [hk]
    unfold Str.strKind
    split
    · decide
    · split <;> decide
  have none : occurrences x y 0 x.length (x.length + 1) = [] → List.map codes [x] = List.map codes (partsFrom x y.length 0 (occurrences x y 0 x.length (x.length + 1))) := fun ho => by
    rw [ho]
    show [codes x] = [codes (strSub x 0 x.length)]
    rw [sub_whole]
  unfold Txt.split
  by_cases hlt : x.length < y.length
  · rw [if_pos (by simp [hlt])]
    apply none
    cases ho : occurrences x y 0 x.length (x.length + 1) with
    | nil => rfl
    | cons c r =>
      rw [ho] at hch
      have := hch.2.1.1
      omega
  · rw [if_neg (by simp [hlt, hk2])]
    cases ho : occurrences x y 0 x.length (x.length + 1) with
    | nil =>
      have := none ho
      rw [ho] at this
      exact this
    | cons c r => rw [if_neg (by simp), partsBetween_eq]
end
end Mine
end
section
-- PL3
example : True := by
  w_top off
  trivial
open PySem PySem.Builtin PySem.Builtin.Str PySem.StrLaws
namespace Mine
noncomputable def spellC (c : Nat) : List Nat := if c = 38 then [38, 97, 109, 112, 59] else if c = 60 then [38, 108, 116, 59] else if c = 62 then [38, 103, 116, 59] else [c]
noncomputable def escL (l : List Nat) : List Nat := l.flatMap spellC
theorem repl_one (c : Nat) (z : List Nat) : ∀ l, replS [c] z 0 l = l.flatMap fun d => if d = c then z else [d]
  | [] => rfl
  | d :: r => by
    rw [repl_c, List.flatMap_cons]
    by_cases h : d = c
    · rw [if_pos (by simp [h]), if_pos h, ← repl_one c z r]; rfl
    · rw [if_neg (by simp [h]), if_neg h, repl_one c z r]; rfl
theorem flat_id {f : Nat → List Nat} : ∀ l : List Nat, (∀ d ∈ l, f d = [d]) → l.flatMap f = l
  | [], _ => rfl
  | d :: r, h => by rw [List.flatMap_cons, h d (.head _), flat_id r fun d hd => h d (.tail _ hd)]; rfl
theorem esc1_codes (x : Str) (c : Nat) (y z : String) (hy : Str.ofString y = ⟨#[c]⟩) : codes (esc1 x y z) = (codes x).flatMap fun d => if d = c then codes (Str.ofString z) else [d] := by
  unfold esc1
  rw [hy, found_one]
  by_cases h : c ∈ x.cps.toList
  · rw [if_pos (decide_eq_true h), replace_codes (y := ⟨#[c]⟩) (Nat.le_refl 1)]
    exact repl_one c _ _
  · rw [if_neg (by simp [h])]
    exact (flat_id _ fun d hd => if_neg (by rintro rfl; exact h hd)).symm
theorem esc_codes (x : Str) : codes (escOf x) = escL (codes x) := by
  unfold escOf
  rw [esc1_codes _ 62 _ _ (by decide +kernel), esc1_codes _ 60 _ _ (by decide +kernel), esc1_codes _ 38 _ _ (by decide +kernel), List.flatMap_assoc, List.flatMap_assoc]
  unfold escL
  congr 1
  funext d
  have e1 : codes (Str.ofString "&amp;") = [38, 97, 109, 112, 59] := rfl
  have e2 : codes (Str.ofString "&lt;") = [38, 108, 116, 59] := rfl
  have e3 : codes (Str.ofString "&gt;") = [38, 103, 116, 59] := rfl
  rw [e1, e2, e3]
  unfold spellC
  by_cases h1 : d = 38
  · subst h1; rfl
  · by_cases h2 : d = 60
    · subst h2; rfl
    · by_cases h3 : d = 62
      · subst h3; rfl
      · simp [h1, h2, h3]
theorem spell_codes (x : Str) : codes (spellOf x) = escL (codes x) := by
  unfold spellOf spellL
  rw [codes, join_empty, List.flatMap_map]
  unfold escL
  congr 1
  funext d
  unfold spell1 spellC
  by_cases h1 : d = 38
  · rw [if_pos h1, if_pos h1]; rfl
  · rw [if_neg h1, if_neg h1]
    by_cases h2 : d = 60
    · rw [if_pos h2, if_pos h2]; rfl
    · rw [if_neg h2, if_neg h2]
      by_cases h3 : d = 62
      · rw [if_pos h3, if_pos h3]; rfl
      · rw [if_neg h3, if_neg h3]
noncomputable def Pl (R : List Nat) : Prop := R ≠ [] ∧ ∀ c ∈ R, c ≠ 10 ∧ c ≠ 13
theorem crlf_plain : ∀ (R t : List Nat), (∀ c ∈ R, c ≠ 10 ∧ c ≠ 13) → crlfS 0 (R ++ t) = R ++ crlfS 0 t
  | [], _, _ => rfl
  | c :: r, t, h => by
    have hc := h c (.head _)
    rw [List.cons_append, crlf_c, if_neg (by omega), crlf_plain r t fun c hc => h c (.tail _ hc)]; rfl
theorem dot_plain : ∀ (R t : List Nat), (∀ c ∈ R, c ≠ 10 ∧ c ≠ 13) → dotS false (R ++ t) = R ++ dotS false t
  | [], _, _ => rfl
  | c :: r, t, h => by
    have hc := h c (.head _)
    rw [List.cons_append, dot_c, if_neg (by simp), show (c == 10) = false by simp [hc.1], dot_plain r t fun c hc => h c (.tail _ hc)]; rfl
noncomputable def Dn (n : Nat) (R : List Nat) : List Nat := if R.head? = some 46 then List.replicate n 46 ++ R else R
theorem dot_row {R : List Nat} (h : Pl R) (t : List Nat) : dotS true (R ++ t) = Dn 1 R ++ dotS false t := by
  obtain ⟨h0, h⟩ := h
  cases R with
  | nil => exact absurd rfl h0
  | cons c r =>
    have hc := h c (.head _)
    have hr : ∀ c ∈ r, c ≠ 10 ∧ c ≠ 13 := fun c hc => h c (.tail _ hc)
    unfold Dn
    rw [List.cons_append, dot_c]
    by_cases e : c = 46
    · subst e
      rw [if_pos ⟨rfl, rfl⟩, dot_plain r t hr, if_pos (show (46 :: r).head? = some 46 from rfl)]; rfl
    · rw [if_neg (fun h => e h.2), show (c == 10) = false by simp [hc.1], dot_plain r t hr, if_neg (by simp [e])]; rfl
noncomputable def EndN (e : List Nat) : Prop := e = [10] ∨ e = [13] ∨ e = [13, 10] ∨ e = [10, 10] ∨ e = [13, 13] ∨ e = [10, 13] ∨ e = [13, 10, 13, 10]
theorem end_nrm {e : List Nat} (h : EndN e) : crlfS 0 e = [13, 10] ∨ crlfS 0 e = [13, 10, 13, 10] := by
  rcases h with rfl | rfl | rfl | rfl | rfl | rfl | rfl <;> decide
theorem end_end {e : List Nat} (h : EndN e) : EndN (crlfS 0 e) := by
  rcases end_nrm h with e | e <;> rw [e] <;> simp [EndN]
theorem end_idem {e : List Nat} (h : EndN e ∨ e = []) : crlfS 0 (crlfS 0 e) = crlfS 0 e := by
  rcases h with h | rfl
  · rcases end_nrm h with e | e <;> rw [e] <;> decide
  · rfl
theorem crlf_end {e t : List Nat} (h : EndN e) (ht : ¬ t.head? = some 10) : crlfS 0 (e ++ t) = crlfS 0 e ++ crlfS 0 t := by
  rcases h with rfl | rfl | rfl | rfl | rfl | rfl | rfl <;> simp [crlf_c, crlf_s, ht, crlfS]
theorem dot_end {e : List Nat} (h : EndN e) (t : List Nat) : dotS false (crlfS 0 e ++ t) = crlfS 0 e ++ dotS true t := by
  rcases end_nrm h with e | e <;> rw [e] <;> simp [dot_c]
theorem dot_last {e : List Nat} (h : EndN e ∨ e = []) : dotS false (crlfS 0 e) = crlfS 0 e := by
  rcases h with h | rfl
  · rcases end_nrm h with e | e <;> rw [e] <;> decide
  · rfl
noncomputable def page (R1 e1 R2 e2 R3 e3 : List Nat) : List Nat := R1 ++ (e1 ++ (R2 ++ (e2 ++ (R3 ++ e3))))
theorem head_pl {R : List Nat} (h : Pl R) (t : List Nat) : ¬ (R ++ t).head? = some 10 := by
  obtain ⟨h0, h⟩ := h
  cases R with
  | nil => exact absurd rfl h0
  | cons c r => intro e; exact (h c (.head _)).1 (Option.some.inj e)
noncomputable def quoteL (l : List Nat) : List Nat := dotS true (crlfS 0 l)
theorem quote_page {R1 e1 R2 e2 R3 e3 : List Nat} (p1 : Pl R1) (p2 : Pl R2) (p3 : Pl R3) (h1 : EndN e1) (h2 : EndN e2) (h3 : EndN e3 ∨ e3 = []) :
    quoteL (page R1 e1 R2 e2 R3 e3) = page (Dn 1 R1) (crlfS 0 e1) (Dn 1 R2) (crlfS 0 e2) (Dn 1 R3) (crlfS 0 e3) := by
  unfold quoteL page
  rw [crlf_plain _ _ p1.2, crlf_end h1 (head_pl p2 _), crlf_plain _ _ p2.2, crlf_end h2 (head_pl p3 _), crlf_plain _ _ p3.2,
    dot_row p1, dot_end h1, dot_row p2, dot_end h2, dot_row p3, dot_last h3]
theorem dn_dn (n : Nat) (R : List Nat) : Dn 1 (Dn n R) = Dn (n + 1) R := by
  unfold Dn
  by_cases h : R.head? = some 46
  · rw [if_pos h, if_pos h]
    have : (List.replicate n 46 ++ R).head? = some 46 := by
      cases n with
      | zero => simpa using h
      | succ n => rfl
    rw [if_pos this, List.replicate_succ]; rfl
  · rw [if_neg h, if_neg h, if_neg h]
theorem dn_pl {R : List Nat} (n : Nat) (h : Pl R) : Pl (Dn n R) := by
  unfold Dn
  split
  · refine ⟨by simp [h.1], fun c hc => ?_⟩
    rcases List.mem_append.mp hc with hc | hc
    · rw [(List.mem_replicate.mp hc).2]; decide
    · exact h.2 c hc
  · exact h
noncomputable def quoteNL : Nat → List Nat → List Nat
  | 0, l => l
  | n + 1, l => quoteNL n (quoteL l)
theorem quoteN_codes : ∀ (n : Nat) (x : Str), codes (quoteN n x) = quoteNL n (codes x)
  | 0, _ => rfl
  | n + 1, x => by
    show codes (quoteN n (quoteOf x)) = _
    rw [quoteN_codes n, quote_codes]; rfl
theorem quoteNL_norm {R1 e1 R2 e2 R3 e3 : List Nat} (p1 : Pl R1) (p2 : Pl R2) (p3 : Pl R3) (h1 : EndN e1) (h2 : EndN e2) (h3 : EndN e3 ∨ e3 = []) (i1 : crlfS 0 e1 = e1) (i2 : crlfS 0 e2 = e2) (i3 : crlfS 0 e3 = e3) :
    ∀ n j, quoteNL n (page (Dn j R1) e1 (Dn j R2) e2 (Dn j R3) e3) = page (Dn (j + n) R1) e1 (Dn (j + n) R2) e2 (Dn (j + n) R3) e3
  | 0, j => rfl
  | n + 1, j => by
    show quoteNL n (quoteL _) = _
    rw [quote_page (dn_pl j p1) (dn_pl j p2) (dn_pl j p3) h1 h2 h3, i1, i2, i3, dn_dn, dn_dn, dn_dn, quoteNL_norm p1 p2 p3 h1 h2 h3 i1 i2 i3 n (j + 1), show j + 1 + n = j + (n + 1) by omega]
theorem quoteNL_page {R1 e1 R2 e2 R3 e3 : List Nat} (p1 : Pl R1) (p2 : Pl R2) (p3 : Pl R3) (h1 : EndN e1) (h2 : EndN e2) (h3 : EndN e3 ∨ e3 = []) (n : Nat) :
    quoteNL (n + 1) (page R1 e1 R2 e2 R3 e3) = page (Dn (n + 1) R1) (crlfS 0 e1) (Dn (n + 1) R2) (crlfS 0 e2) (Dn (n + 1) R3) (crlfS 0 e3) := by
  show quoteNL n (quoteL _) = _
  rw [quote_page p1 p2 p3 h1 h2 h3, quoteNL_norm p1 p2 p3 (end_end h1) (end_end h2) (h3.elim (fun h => .inl (end_end h)) fun h => .inr (by rw [h]; rfl)) (end_idem (.inl h1)) (end_idem (.inl h2)) (end_idem h3) n 1, Nat.add_comm 1 n]
theorem escL_append (a b : List Nat) : escL (a ++ b) = escL a ++ escL b := List.flatMap_append
theorem escL_end {e : List Nat} (h : EndN e ∨ e = []) : escL e = e := by
  rcases h with (rfl | rfl | rfl | rfl | rfl | rfl | rfl) | rfl <;> rfl
theorem escL_page {R1 e1 R2 e2 R3 e3 : List Nat} (h1 : EndN e1) (h2 : EndN e2) (h3 : EndN e3 ∨ e3 = []) : escL (page R1 e1 R2 e2 R3 e3) = page (escL R1) e1 (escL R2) e2 (escL R3) e3 := by
  unfold page
  simp only [escL_append, escL_end (.inl h1), escL_end (.inl h2), escL_end h3]
theorem spellC_mem {c d : Nat} (h : d ∈ spellC c) (hc : c ≠ 10 ∧ c ≠ 13) : d ≠ 10 ∧ d ≠ 13 := by
  unfold spellC at h
  split at h
  · simp at h; omega
  · split at h
    · simp at h; omega
    · split at h
      · simp at h; omega
      · simp at h; omega
theorem spellC_head (c : Nat) (t : List Nat) : (spellC c ++ t).head? = some 46 ↔ c = 46 := by
  unfold spellC
  by_cases h1 : c = 38
  · subst h1; simp
  · by_cases h2 : c = 60
    · subst h2; simp
    · by_cases h3 : c = 62
      · subst h3; simp
      · simp [h1, h2, h3]
theorem escL_pl {R : List Nat} (h : Pl R) : Pl (escL R) ∧ ((escL R).head? = some 46 ↔ R.head? = some 46) := by
  obtain ⟨h0, h⟩ := h
  cases R with
  | nil => exact absurd rfl h0
  | cons c r =>
    refine ⟨⟨?_, fun d hd => ?_⟩, ?_⟩
    · unfold escL
      rw [List.flatMap_cons]
      intro e
      have := (List.append_eq_nil_iff.mp e).1
      unfold spellC at this
      split at this
      · cases this
      · split at this
        · cases this
        · split at this <;> cases this
    · obtain ⟨c', hc', hd'⟩ := List.mem_flatMap.mp hd
      exact spellC_mem hd' (h c' hc')
    · unfold escL
      rw [List.flatMap_cons, spellC_head]
      simp
theorem escL_dn {R : List Nat} (n : Nat) (h : Pl R) : escL (Dn n R) = Dn n (escL R) := by
  have hh := (escL_pl h).2
  unfold Dn
  by_cases e : R.head? = some 46
  · rw [if_pos e, if_pos (hh.mpr e), escL_append]
    congr 1
    exact flat_id _ fun d hd => by rw [(List.mem_replicate.mp hd).2]; rfl
  · rw [if_neg e, if_neg (fun h => e (hh.mp h))]
theorem codes_inj {x y : Str} (h : codes x = codes y) : x = y := Str.ext' (Array.toList_inj.mp h)
theorem codes_len (x : Str) : (codes x).length = x.cps.size := Array.length_toList
theorem escL_len (R : List Nat) : (escL R).length ≤ 5 * R.length := by
  unfold escL
  induction R with
  | nil => simp
  | cons c r ih =>
    rw [List.flatMap_cons, List.length_append, List.length_cons]
    have : (spellC c).length ≤ 5 := by
      unfold spellC
      split
      · decide
      · split
        · decide
        · split <;> simp
    omega
theorem dn_len (n : Nat) (R : List Nat) : (Dn n R).length ≤ n + R.length := by
  unfold Dn
  split
  · simp
  · omega
end Mine
end
section
-- PL4
example : True := by
  w_top off
  trivial
open PySem PySem.Builtin PySem.Builtin.Str PySem.StrLaws
namespace Mine
noncomputable def sgN (n : Nat) : List Nat := ([[46, 46, 46], [38], [60, 60], [62, 62], [42, 42], [47, 47], [94], [124]] : List (List Nat)).getD n []
noncomputable def sgC (k : Int) : List Nat := codes (sgT k)
noncomputable def Dig (k : Int) : Prop := 0 ≤ k ∧ k < 8
theorem dig_cases {k : Int} (h : Dig k) : k = 0 ∨ k = 1 ∨ k = 2 ∨ k = 3 ∨ k = 4 ∨ k = 5 ∨ k = 6 ∨ k = 7 := by
  unfold Dig at h
  omega
theorem sg_eq {k : Int} (h : Dig k) : sgC k = sgN k.toNat := by
  unfold sgC
  rw [sgT_def]
  rcases dig_cases h with rfl | rfl | rfl | rfl | rfl | rfl | rfl | rfl <;> rfl
noncomputable def rowC (l : List Int) : List Nat := l.flatMap sgC
theorem row_codes (a b c d : Int) : codes (rowT a b c d) = rowC [a, b, c, d] := by
  rw [rowT_def, codes, join_empty]
  rfl
theorem sgN_pl {k : Int} (h : Dig k) : Pl (sgC k) := by
  rw [sg_eq h]
  rcases dig_cases h with rfl | rfl | rfl | rfl | rfl | rfl | rfl | rfl <;> refine ⟨by decide, ?_⟩ <;> decide
theorem row_pl {l : List Int} (h0 : l ≠ []) (h : ∀ k ∈ l, Dig k) : Pl (rowC l) := by
  refine ⟨?_, fun c hc => ?_⟩
  · cases l with
    | nil => exact absurd rfl h0
    | cons a r =>
      intro e
      unfold rowC at e
      rw [List.flatMap_cons] at e
      exact (sgN_pl (h a (.head _))).1 (List.append_eq_nil_iff.mp e).1
  · obtain ⟨k, hk, hc⟩ := List.mem_flatMap.mp hc
    exact (sgN_pl (h k hk)).2 c hc
/-- the three replacements undo the spelling -/
noncomputable def b1 (k : Int) : List Nat := if k = 2 then [60, 60] else escL (sgC k)
noncomputable def b2 (k : Int) : List Nat := if k = 3 then [62, 62] else b1 k
theorem u1_blk {k : Int} (h : Dig k) (t : List Nat) : replS [38, 108, 116, 59] [60] 0 (escL (sgC k) ++ t) = b1 k ++ replS [38, 108, 116, 59] [60] 0 t := by
  unfold b1
  rw [sg_eq h]
  rcases dig_cases h with rfl | rfl | rfl | rfl | rfl | rfl | rfl | rfl <;> rfl
theorem u2_blk {k : Int} (h : Dig k) (t : List Nat) : replS [38, 103, 116, 59] [62] 0 (b1 k ++ t) = b2 k ++ replS [38, 103, 116, 59] [62] 0 t := by
  unfold b2 b1
  rw [sg_eq h]
  rcases dig_cases h with rfl | rfl | rfl | rfl | rfl | rfl | rfl | rfl <;> rfl
theorem u3_blk {k : Int} (h : Dig k) (t : List Nat) : replS [38, 97, 109, 112, 59] [38] 0 (b2 k ++ t) = sgC k ++ replS [38, 97, 109, 112, 59] [38] 0 t := by
  unfold b2 b1
  rw [sg_eq h]
  rcases dig_cases h with rfl | rfl | rfl | rfl | rfl | rfl | rfl | rfl <;> rfl
theorem unspell : ∀ l : List Int, (∀ k ∈ l, Dig k) → replS [38, 97, 109, 112, 59] [38] 0 (replS [38, 103, 116, 59] [62] 0 (replS [38, 108, 116, 59] [60] 0 (escL (rowC l)))) = rowC l := by
  have h1 : ∀ l : List Int, (∀ k ∈ l, Dig k) → replS [38, 108, 116, 59] [60] 0 (escL (rowC l)) = l.flatMap b1 := by
    intro l
    induction l with
    | nil => intro _; rfl
    | cons a r ih =>
      intro h
      have : escL (rowC (a :: r)) = escL (sgC a) ++ escL (rowC r) := by unfold rowC; rw [List.flatMap_cons, escL_append]
      rw [this, u1_blk (h a (.head _)), ih fun k hk => h k (.tail _ hk), List.flatMap_cons]
  have h2 : ∀ l : List Int, (∀ k ∈ l, Dig k) → replS [38, 103, 116, 59] [62] 0 (l.flatMap b1) = l.flatMap b2 := by
    intro l
    induction l with
    | nil => intro _; rfl
    | cons a r ih =>
      intro h
      rw [List.flatMap_cons, u2_blk (h a (.head _)), ih fun k hk => h k (.tail _ hk), List.flatMap_cons]
  have h3 : ∀ l : List Int, (∀ k ∈ l, Dig k) → replS [38, 97, 109, 112, 59] [38] 0 (l.flatMap b2) = rowC l := by
    intro l
    induction l with
    | nil => intro _; rfl
    | cons a r ih =>
      intro h
      rw [List.flatMap_cons, u3_blk (h a (.head _)), ih fun k hk => h k (.tail _ hk)]
      rfl
  intro l h
  rw [h1 l h, h2 l h, h3 l h]
noncomputable def tokTabL : List (List Nat × Int) := [([33], 54), ([33, 61], 28), ([37], 24), ([37, 61], 40), ([38], 19), ([38, 61], 41), ([40], 7), ([41], 8), ([42], 16), ([42, 42], 35), ([42, 42, 61], 46), ([42, 61], 38), ([43], 14), ([43, 61], 36), ([44], 12), ([45], 15), ([45, 61], 37), ([45, 62], 51), ([46], 23), ([46, 46, 46], 52), ([47], 17), ([47, 47], 47), ([47, 47, 61], 48), ([47, 61], 39), ([58], 11), ([58, 61], 53), ([59], 13), ([60], 20), ([60, 60], 33), ([60, 60, 61], 44), ([60, 61], 29), ([61], 22), ([61, 61], 27), ([62], 21), ([62, 61], 30), ([62, 62], 34), ([62, 62, 61], 45), ([64], 49), ([64, 61], 50), ([91], 9), ([93], 10), ([94], 32), ([94, 61], 43), ([123], 25), ([124], 18), ([124, 61], 42), ([125], 26), ([126], 31)]
noncomputable def isTokL (w : List Nat) : Bool := tokTabL.any fun t => t.1 == w
noncomputable def tokOfL (w : List Nat) : Option Int := (tokTabL.find? fun t => t.1 == w).map (·.2)
theorem tab_eq : tokTab.map (fun t => (codes t.1, t.2)) = tokTabL := rfl
theorem dec_codes (w : List Nat) (x : Str) : decide ((⟨w.toArray⟩ : Str) = x) = (codes x == w) := by
  by_cases h : (⟨w.toArray⟩ : Str) = x
  · rw [decide_eq_true h, ← h]; simp [codes]
  · rw [decide_eq_false h]
    symm
    rw [beq_eq_false_iff_ne]
    intro e
    exact h (codes_inj (by rw [e]))
theorem isTok_eq (w : List Nat) : isTok ⟨w.toArray⟩ = isTokL w := by
  unfold isTok isTokL
  rw [← tab_eq]
  induction tokTab with
  | nil => rfl
  | cons t r ih => rw [List.foldr_cons, ih, List.map_cons, List.any_cons, dec_codes]
theorem tokOf_eq (w : List Nat) : tokOf ⟨w.toArray⟩ = tokOfL w := by
  unfold tokOf tokOfL
  rw [← tab_eq]
  induction tokTab with
  | nil => rfl
  | cons t r ih =>
    rw [List.map_cons, List.find?_cons, List.find?_cons, dec_codes]
    cases codes t.1 == w with
    | true => rfl
    | false => exact ih
/-- the longest operator first -/
noncomputable def chk (a : Nat) (l : List Nat) : Bool :=
  let w := (a :: l).flatMap sgN
  isTokL (w.take 1) && (if isTokL (w.take 3) then tokOfL (w.take 3) == some (worthL.getD a 0) && ((sgN a).length == 3 || (l.isEmpty && decide ((sgN a).length ≤ 3)))
    else if isTokL (w.take 2) then tokOfL (w.take 2) == some (worthL.getD a 0) && ((sgN a).length == 2 || (l.isEmpty && decide ((sgN a).length ≤ 2)))
    else tokOfL (w.take 1) == some (worthL.getD a 0) && ((sgN a).length == 1 || (l.isEmpty && decide ((sgN a).length ≤ 1))))
theorem chk_all : ((List.range 8).all fun a => chk a [] && (List.range 8).all fun b => chk a [b] && (decide (3 ≤ (sgN a ++ sgN b).length) || (List.range 8).all fun c => chk a [b, c])) = true := by decide +kernel
theorem chk_more {a b c : Nat} (h : 3 ≤ (sgN a ++ sgN b).length) : chk a [b, c] = chk a [b] := by
  have e : ∀ n, n ≤ 3 → ((a :: [b, c]).flatMap sgN).take n = ((a :: [b]).flatMap sgN).take n := by
    intro n hn
    have e1 : (a :: [b, c]).flatMap sgN = (sgN a ++ sgN b) ++ sgN c := by simp
    have e2 : (a :: [b]).flatMap sgN = sgN a ++ sgN b := by simp
    rw [e1, e2, List.take_append_of_le_length (by omega)]
  unfold chk
  dsimp only
  rw [e 1 (by decide), e 2 (by decide), e 3 (by decide)]
  rfl
theorem chk_of {a : Nat} (ha : a < 8) : ∀ l : List Nat, (∀ k ∈ l, k < 8) → l.length ≤ 2 → chk a l = true := by
  have h := List.all_eq_true.mp chk_all a (List.mem_range.mpr ha)
  rw [Bool.and_eq_true] at h
  intro l hl h2
  match l, hl, h2 with
  | [], _, _ => exact h.1
  | [b], hl, _ =>
    have hb := List.all_eq_true.mp h.2 b (List.mem_range.mpr (hl b (.head _)))
    rw [Bool.and_eq_true] at hb
    exact hb.1
  | [b, c], hl, _ =>
    have hb := List.all_eq_true.mp h.2 b (List.mem_range.mpr (hl b (.head _)))
    rw [Bool.and_eq_true, Bool.or_eq_true] at hb
    rcases hb.2 with h3 | h3
    · rw [chk_more (of_decide_eq_true h3)]
      exact hb.1
    · exact List.all_eq_true.mp h3 c (List.mem_range.mpr (hl c (.tail _ (.head _))))
theorem row_take (l : List Int) (h : ∀ k ∈ l, Dig k) {n : Nat} (hn : n ≤ 3) : (rowC l).take n = (rowC (l.take 3)).take n := by
  rcases Nat.lt_or_ge 3 l.length with h3 | h3
  · have e : rowC l = rowC (l.take 3) ++ rowC (l.drop 3) := by
      unfold rowC
      rw [← List.flatMap_append, List.take_append_drop]
    have hlen : ∀ m : List Int, (∀ k ∈ m, Dig k) → m.length ≤ (rowC m).length := by
      intro m
      induction m with
      | nil => intro _; exact Nat.le_refl _
      | cons a r ih =>
        intro h
        have h1 : 0 < (sgC a).length := List.length_pos_iff.mpr (sgN_pl (h a (.head _))).1
        have := ih fun k hk => h k (.tail _ hk)
        unfold rowC at this ⊢
        rw [List.flatMap_cons, List.length_append, List.length_cons]
        omega
    have h4 := hlen (l.take 3) fun k hk => h k (List.mem_of_mem_take hk)
    rw [e, List.take_append_of_le_length (by rw [List.length_take] at h4; omega)]
  · rw [List.take_of_length_le h3]
theorem rowN (l : List Int) (h : ∀ k ∈ l, Dig k) : rowC l = (l.map Int.toNat).flatMap sgN := by
  induction l with
  | nil => rfl
  | cons a r ih =>
    have := ih fun k hk => h k (.tail _ hk)
    unfold rowC at this ⊢
    rw [List.flatMap_cons, this, List.map_cons, List.flatMap_cons, sg_eq (h a (.head _))]
theorem slice_clip (l : Option Int) (n : Nat) (j : Int) (hj : (n : Int) ≤ j) : strSliceIndices l (some j) 1 n = strSliceIndices l (some (n : Int)) 1 n := by
  have h1 : ¬ j < 0 := by omega
  have h2 : ¬ (n : Int) < 0 := by omega
  have h3 : min j (n : Int) = n := by omega
  simp [strSliceIndices, h1, h2, h3]
theorem slice_codes (y : Str) (p k : Nat) (hp : p ≤ y.length) : Txt.slice y (some (p : Int)) (some ((p : Int) + (k : Int))) = ⟨(((codes y).drop p).take k).toArray⟩ := by
  have hl : (codes y).length = y.length := codes_len y
  show sliceText y _ _ = _
  rcases Nat.lt_or_ge y.length (p + k) with h | h
  · have e : sliceText y (some (p : Int)) (some ((p : Int) + (k : Int))) = sliceText y (some (p : Int)) (some ((y.length : Nat) : Int)) := by
      unfold sliceText
      rw [slice_clip _ _ _ (by omega)]
    have hl' : y.cps.toList.length = y.length := hl
    rw [e, sliceText_nat y hp (Nat.le_refl _), List.take_of_length_le (by rw [List.length_drop]; omega), List.take_of_length_le (by rw [List.length_drop]; omega)]
  · have e : ((p : Int) + (k : Int)) = ((p + k : Nat) : Int) := by omega
    rw [e, sliceText_nat y (Nat.le_add_right _ _) h, Nat.add_sub_cancel_left]
noncomputable def At' (y : Str) (l : List Int) (p : Nat) : Prop := (l = [] ∧ y.length ≤ p) ∨ (l ≠ [] ∧ (codes y).drop p = rowC l ∧ (∀ k ∈ l, Dig k) ∧ p ≤ y.length)
theorem at_cons {y : Str} {a : Int} {r : List Int} {p : Nat} (h : At' y (a :: r) p) : (codes y).drop p = rowC (a :: r) ∧ (∀ k ∈ a :: r, Dig k) ∧ p ≤ y.length := by
  rcases h with ⟨h, _⟩ | ⟨_, h⟩
  · cases h
  · exact h
theorem reads_row (y : Str) : Reads y (At' y) := by
  have hl : (codes y).length = y.length := codes_len y
  have lt : ∀ a r p, At' y (a :: r) p → p < y.length := by
    intro a r p h
    obtain ⟨e, hd, hp⟩ := at_cons h
    rcases Nat.lt_or_ge p y.length with h | h
    · exact h
    · rw [List.drop_eq_nil_of_le (by omega)] at e
      exact absurd e.symm (row_pl (by simp) hd).1
  have key : ∀ a r p, At' y (a :: r) p → isTok ⟨(((codes y).drop p).take 1).toArray⟩ = true ∧
      (if isTok ⟨(((codes y).drop p).take 3).toArray⟩ then tokOf ⟨(((codes y).drop p).take 3).toArray⟩ = some (worth1 a) ∧ ((sgC a).length = 3 ∨ (r = [] ∧ (sgC a).length ≤ 3))
       else if isTok ⟨(((codes y).drop p).take 2).toArray⟩ then tokOf ⟨(((codes y).drop p).take 2).toArray⟩ = some (worth1 a) ∧ ((sgC a).length = 2 ∨ (r = [] ∧ (sgC a).length ≤ 2))
       else tokOf ⟨(((codes y).drop p).take 1).toArray⟩ = some (worth1 a) ∧ ((sgC a).length = 1 ∨ (r = [] ∧ (sgC a).length ≤ 1))) := by
    intro a r p h
    obtain ⟨e, hd, hp⟩ := at_cons h
    have ha := hd a (.head _)
    have hc := chk_of (a := a.toNat) (by unfold Dig at ha; omega) ((r.take 2).map Int.toNat) (by
      intro k hk
      obtain ⟨k', hk', rfl⟩ := List.mem_map.mp hk
      have := hd k' (.tail _ (List.mem_of_mem_take hk'))
      unfold Dig at this
      omega) (by rw [List.length_map, List.length_take]; omega)
    have e' : ∀ n, n ≤ 3 → ((codes y).drop p).take n = ((a.toNat :: (r.take 2).map Int.toNat).flatMap sgN).take n := by
      intro n hn
      rw [e, row_take _ hd hn, rowN _ (fun k hk => hd k (List.mem_of_mem_take hk))]
      rfl
    have hw : worthL.getD a.toNat 0 = worth1 a := by unfold worth1; rfl
    have conv : ∀ {z : List Nat} {n : Nat} {v : Int}, (tokOfL z == some v && ((sgN a.toNat).length == n || (((r.take 2).map Int.toNat).isEmpty && decide ((sgN a.toNat).length ≤ n)))) = true → tokOfL z = some v ∧ ((sgN a.toNat).length = n ∨ (r = [] ∧ (sgN a.toNat).length ≤ n)) := by
      intro z n v h
      rw [Bool.and_eq_true, Bool.or_eq_true, Bool.and_eq_true] at h
      refine ⟨eq_of_beq h.1, h.2.imp (fun h => eq_of_beq h) fun h => ⟨?_, of_decide_eq_true h.2⟩⟩
      cases r with
      | nil => rfl
      | cons x xs => have := h.1; simp at this
    unfold chk at hc
    rw [e' 1 (by decide), e' 2 (by decide), e' 3 (by decide), ← hw, sg_eq ha]
    simp only [isTok_eq, tokOf_eq]
    rw [Bool.and_eq_true] at hc
    refine ⟨hc.1, ?_⟩
    have h2 := hc.2
    split
    · rename_i h3
      rw [if_pos h3] at h2
      exact conv h2
    · rename_i h3
      rw [if_neg h3] at h2
      split
      · rename_i h4
        rw [if_pos h4] at h2
        exact conv h2
      · rename_i h4
        rw [if_neg h4] at h2
        exact conv h2
  have next : ∀ a r p, At' y (a :: r) p → ∀ n, ((sgC a).length = n ∨ (r = [] ∧ (sgC a).length ≤ n)) → At' y r (p + n) := by
    intro a r p h n hn
    obtain ⟨e, hd, hp⟩ := at_cons h
    have hlen := congrArg List.length e
    unfold rowC at hlen
    rw [List.length_drop, List.flatMap_cons, List.length_append] at hlen
    by_cases hr : r = []
    · subst hr
      refine Or.inl ⟨rfl, ?_⟩
      rw [List.flatMap_nil, List.length_nil] at hlen
      omega
    · refine Or.inr ⟨hr, ?_, fun k hk => hd k (.tail _ hk), ?_⟩
      · have hn' : (sgC a).length = n := hn.resolve_right fun h => hr h.1
        subst hn'
        rw [← List.drop_drop, e]
        unfold rowC
        rw [List.flatMap_cons, List.drop_left]
      · have hn' : (sgC a).length = n := hn.resolve_right fun h => hr h.1
        omega
  have b : ∀ p (k : Nat), p ≤ y.length → bT y p (k : Int) = isTok ⟨(((codes y).drop p).take k).toArray⟩ := fun p k hp => by rw [bT_def, slice_codes y p k hp]
  refine ⟨lt, ?_, ?_, ?_, ?_, ?_⟩
  · rintro p (⟨_, h⟩ | ⟨h, _⟩)
    · exact h
    · exact absurd rfl h
  · intro a r p h
    have := (key a r p h).1
    rw [← b p 1 (at_cons h).2.2] at this
    exact this
  · intro a r p h h3
    have hk := (key a r p h).2
    have h3' : bT y p ((3 : Nat) : Int) = true := h3
    rw [b p 3 (at_cons h).2.2] at h3'
    rw [if_pos h3'] at hk
    have e := slice_codes y p 3 (at_cons h).2.2
    refine ⟨?_, next a r p h 3 hk.2⟩
    rw [show (Txt.slice y (some (p : Int)) (some ((p : Int) + 3))) = _ from e]
    exact hk.1
  · intro a r p h h3 h2
    have hk := (key a r p h).2
    have h3' : bT y p ((3 : Nat) : Int) = false := h3
    have h2' : bT y p ((2 : Nat) : Int) = true := h2
    rw [b p 3 (at_cons h).2.2] at h3'
    rw [b p 2 (at_cons h).2.2] at h2'
    rw [if_neg (by rw [h3']; exact Bool.false_ne_true), if_pos h2'] at hk
    have e := slice_codes y p 2 (at_cons h).2.2
    refine ⟨?_, next a r p h 2 hk.2⟩
    rw [show (Txt.slice y (some (p : Int)) (some ((p : Int) + 2))) = _ from e]
    exact hk.1
  · intro a r p h h3 h2
    have hk := (key a r p h).2
    have h3' : bT y p ((3 : Nat) : Int) = false := h3
    have h2' : bT y p ((2 : Nat) : Int) = false := h2
    rw [b p 3 (at_cons h).2.2] at h3'
    rw [b p 2 (at_cons h).2.2] at h2'
    rw [if_neg (by rw [h3']; exact Bool.false_ne_true), if_neg (by rw [h2']; exact Bool.false_ne_true)] at hk
    have e := slice_codes y p 1 (at_cons h).2.2
    refine ⟨?_, next a r p h 1 hk.2⟩
    rw [show (Txt.slice y (some (p : Int)) (some ((p : Int) + 1))) = _ from e]
    exact hk.1
end Mine
end
section
-- PL5
example : True := by
  w_top off
  trivial
open PySem PySem.Builtin PySem.Builtin.Str PySem.StrLaws
namespace Mine
theorem page_len {R1 e1 R2 e2 R3 e3 : List Nat} : (page R1 e1 R2 e2 R3 e3).length = R1.length + e1.length + R2.length + e2.length + R3.length + e3.length := by
  unfold page
  simp only [List.length_append]
  omega
theorem end_len {e : List Nat} (h : EndN e ∨ e = []) : e.length ≤ 4 ∧ (crlfS 0 e).length ≤ 4 := by
  rcases h with h | rfl
  · refine ⟨?_, ?_⟩
    · rcases h with rfl | rfl | rfl | rfl | rfl | rfl | rfl <;> decide
    · rcases end_nrm h with e | e <;> rw [e] <;> decide
  · decide
theorem end_ok {k : Int} (h : 0 ≤ k ∧ k < 7) : (k < 6 → EndN (codes (endT k))) ∧ (EndN (codes (endT k)) ∨ codes (endT k) = []) ∧ codes (snT k) = crlfS 0 (codes (endT k)) := by
  have : k = 0 ∨ k = 1 ∨ k = 2 ∨ k = 3 ∨ k = 4 ∨ k = 5 ∨ k = 6 := by omega
  rw [endT_def, snT_def]
  rcases this with rfl | rfl | rfl | rfl | rfl | rfl | rfl
  · exact ⟨fun _ => .inl rfl, .inl (.inl rfl), by decide⟩
  · exact ⟨fun _ => .inr (.inl rfl), .inl (.inr (.inl rfl)), by decide⟩
  · exact ⟨fun _ => .inr (.inr (.inl rfl)), .inl (.inr (.inr (.inl rfl))), by decide⟩
  · exact ⟨fun _ => .inr (.inr (.inr (.inl rfl))), .inl (.inr (.inr (.inr (.inl rfl)))), by decide⟩
  · exact ⟨fun _ => .inr (.inr (.inr (.inr (.inl rfl)))), .inl (.inr (.inr (.inr (.inr (.inl rfl))))), by decide⟩
  · exact ⟨fun _ => .inr (.inr (.inr (.inr (.inr (.inl rfl))))), .inl (.inr (.inr (.inr (.inr (.inr (.inl rfl)))))), by decide⟩
  · exact ⟨fun h => absurd h (by decide), .inr rfl, by decide⟩
theorem item0 {S : Str} (h : codes S ≠ []) : (Txt.item S 0 == Str.ofString ".") = decide ((codes S).head? = some 46) := by
  have hl : 0 < S.length := by
    have := codes_len S
    have h2 := List.length_pos_iff.mpr h
    show 0 < S.cps.size
    omega
  have e : Txt.charAt S 0 = (codes S).head? := by
    unfold Txt.charAt
    rw [seqIndex_nonneg (Int.le_refl 0) (by omega)]
    show S.cps[(0 : Int).toNat]? = S.cps.toList.head?
    rw [List.head?_eq_getElem?]
    simp
  unfold Txt.item
  rw [e]
  cases hh : (codes S).head? with
  | none => rw [List.head?_eq_none_iff] at hh; exact absurd hh h
  | some c =>
    have ed : Str.ofString "." = ⟨#[46]⟩ := by decide +kernel
    rw [ed]
    by_cases hc : c = 46
    · subst hc; rfl
    · rw [decide_eq_false (by simpa using hc)]
      rw [beq_eq_false_iff_ne]
      intro h
      apply hc
      have := congrArg codes h
      simpa [codes] using this
theorem dots_codes {z : Int} (h : 1 ≤ z ∧ z ≤ 3) : codes (Txt.mul (Str.ofString ".") z) = List.replicate z.toNat 46 := by
  have : z = 1 ∨ z = 2 ∨ z = 3 := by omega
  rcases this with rfl | rfl | rfl <;> rfl
theorem cat_codes (a b : Str) : codes (a ++ b) = codes a ++ codes b := by
  show (a.cps ++ b.cps).toList = _
  rw [Array.toList_append]
theorem due_codes {z : Int} (hz : 1 ≤ z ∧ z ≤ 3) {R : Str} (p : Pl (codes R)) : codes (dueT z R) = Dn z.toNat (escL (codes R)) := by
  unfold dueT Dn
  rw [cat_codes, spell_codes, item0 p.1]
  by_cases h : (codes R).head? = some 46
  · rw [if_pos (decide_eq_true h), if_pos ((escL_pl p).2.mpr h), dots_codes hz]
  · rw [if_neg (by simp [h]), if_neg (fun e => h ((escL_pl p).2.mp e))]
    rfl
theorem row_len {l : List Int} (h : ∀ k ∈ l, Dig k) : (rowC l).length ≤ 3 * l.length := by
  induction l with
  | nil => simp [rowC]
  | cons a r ih =>
    have h1 := ih fun k hk => h k (.tail _ hk)
    have h2 : (sgC a).length ≤ 3 := by
      rw [sg_eq (h a (.head _))]
      rcases dig_cases (h a (.head _)) with rfl | rfl | rfl | rfl | rfl | rfl | rfl | rfl <;> decide
    unfold rowC at h1 ⊢
    rw [List.flatMap_cons, List.length_append, List.length_cons]
    omega
theorem cut_codes {z : Int} (hz : 1 ≤ z ∧ z ≤ 3) {S : Str} {l : List Nat} (p : Pl l) (h : codes S = Dn z.toNat l) : codes (cutOf z S) = l := by
  have hp := dn_pl z.toNat p
  have hh : (Dn z.toNat l).head? = some 46 ↔ l.head? = some 46 := by
    unfold Dn
    by_cases e : l.head? = some 46
    · rw [if_pos e]
      have : z.toNat = (z.toNat - 1) + 1 := by omega
      rw [this, List.replicate_succ]
      simp [e]
    · rw [if_neg e]
  unfold cutOf
  rw [item0 (by rw [h]; exact hp.1), h]
  by_cases e : l.head? = some 46
  · rw [if_pos (decide_eq_true (hh.mpr e))]
    have hl : S.cps.toList.length = z.toNat + l.length := by
      have := congrArg List.length h
      unfold Dn at this
      rw [if_pos e, List.length_append, List.length_replicate] at this
      exact this
    show codes (sliceText S (some z) none) = l
    rw [sliceText_from ⟨by omega, by omega⟩]
    show (S.cps.toList.drop z.toNat).take _ = l
    have hS : S.cps.toList = List.replicate z.toNat 46 ++ l := by
      have := h
      unfold Dn at this
      rw [if_pos e] at this
      exact this
    rw [List.take_of_length_le (by rw [List.length_drop]; omega), hS, List.drop_left' (by simp)]
  · rw [if_neg (by simpa [hh] using e), h]
    unfold Dn
    rw [if_neg e]
theorem row_ok {z : Int} (hz : 1 ≤ z ∧ z ≤ 3) {R : Str} {l : List Int} (h0 : l ≠ []) (hl : l.length ≤ 4) (hd : ∀ k ∈ l, Dig k) (hR : codes R = rowC l) : RowOk z (dueT z R) l := by
  have p : Pl (codes R) := hR ▸ row_pl h0 hd
  have pe := (escL_pl p).1
  have hS := due_codes hz p
  have hcut := cut_codes hz pe hS
  have hlen := row_len hd
  have he := escL_len (codes R)
  have hdn := dn_len z.toNat (escL (codes R))
  rw [hR] at he
  have hSl := codes_len (dueT z R)
  have hCl := codes_len (cutOf z (dueT z R))
  rw [hS] at hSl
  rw [hcut] at hCl
  rw [hR] at hdn hSl hCl
  refine ⟨?_, ?_, ?_, ?_⟩
  · have := List.length_pos_iff.mpr (dn_pl z.toNat pe).1
    rw [hR] at this
    omega
  · omega
  · omega
  · refine ⟨_, At' _, reads_row _, ?_, by omega, rfl, ?_⟩
    · refine Or.inr ⟨h0, ?_, hd, Nat.zero_le _⟩
      rw [List.drop_zero, replace_codes (by decide), replace_codes (by decide), replace_codes (by decide), hcut, hR]
      exact unspell l hd
    · rw [← codes_len, replace_codes (by decide), replace_codes (by decide), replace_codes (by decide), hcut, hR]
      have := unspell l hd
      rw [show replS (codes (Str.ofString "&amp;")) (codes (Str.ofString "&")) 0 (replS (codes (Str.ofString "&gt;")) (codes (Str.ofString ">")) 0 (replS (codes (Str.ofString "&lt;")) (codes (Str.ofString "<")) 0 (escL (rowC l)))) = rowC l from this]
      omega
/-- splitting the mail -/
theorem split_plain : ∀ (R t p : List Nat) (ps : List (List Nat)), (∀ c ∈ R, c ≠ 10 ∧ c ≠ 13) → splitS [13, 10] 0 t = p :: ps → splitS [13, 10] 0 (R ++ t) = (R ++ p) :: ps
  | [], t, p, ps, _, h => h
  | c :: r, t, p, ps, hR, h => by
    have hc := hR c (.head _)
    rw [List.cons_append, split_c, if_neg (by
      intro e
      have := congrArg List.head? e
      simp at this
      omega), split_plain r t p ps (fun c hc => hR c (.tail _ hc)) h]
    rfl
theorem split_ne (y : List Nat) : ∀ (n : Nat) (l : List Nat), ∃ p ps, splitS y n l = p :: ps
  | n, [] => ⟨[], [], by cases n <;> rfl⟩
  | n + 1, c :: r => by
    obtain ⟨p, ps, e⟩ := split_ne y n r
    exact ⟨p, ps, by rw [← e]; rfl⟩
  | 0, c :: r => by
    rw [split_c]
    split
    · exact ⟨_, _, rfl⟩
    · obtain ⟨p, ps, e⟩ := split_ne y 0 r
      rw [e]
      exact ⟨_, _, rfl⟩
theorem split_nl (t : List Nat) : splitS [13, 10] 0 (13 :: 10 :: t) = [] :: splitS [13, 10] 0 t := by
  rw [split_c]
  rfl
noncomputable def keepL (l : List (List Nat)) : List (List Nat) := l.filter fun p => !p.isEmpty
theorem split_row {R e t : List Nat} (p : Pl R) (h : EndN e) : keepL (splitS [13, 10] 0 (R ++ (crlfS 0 e ++ t))) = R :: keepL (splitS [13, 10] 0 t) ∧ (splitS [13, 10] 0 (R ++ (crlfS 0 e ++ t))).length ≤ 2 + (splitS [13, 10] 0 t).length := by
  have hR : (R ++ []).isEmpty = false := by
    rw [List.append_nil]
    cases R with
    | nil => exact absurd rfl p.1
    | cons => rfl
  rcases end_nrm h with e | e <;> rw [e]
  · have e1 : splitS [13, 10] 0 ([13, 10] ++ t) = [] :: splitS [13, 10] 0 t := split_nl t
    rw [split_plain R _ _ _ p.2 e1]
    refine ⟨?_, by simp only [List.length_cons]; omega⟩
    unfold keepL
    rw [List.filter_cons, hR, List.append_nil]
    rfl
  · have e1 : splitS [13, 10] 0 ([13, 10, 13, 10] ++ t) = [] :: [] :: splitS [13, 10] 0 t := (split_nl (13 :: 10 :: t)).trans (by rw [split_nl])
    rw [split_plain R _ _ _ p.2 e1]
    refine ⟨?_, by simp only [List.length_cons]; omega⟩
    unfold keepL
    rw [List.filter_cons, hR, List.append_nil]
    rfl
theorem split_last {R e : List Nat} (p : Pl R) (h : EndN e ∨ e = []) : keepL (splitS [13, 10] 0 (R ++ crlfS 0 e)) = [R] ∧ (splitS [13, 10] 0 (R ++ crlfS 0 e)).length ≤ 4 := by
  rcases h with h | rfl
  · have := split_row (t := []) p h
    rw [List.append_nil] at this
    refine ⟨this.1, Nat.le_trans this.2 (by decide)⟩
  · have hR : R.isEmpty = false := by
      cases R with
      | nil => exact absurd rfl p.1
      | cons => rfl
    have e1 : splitS [13, 10] 0 ([] : List Nat) = [] :: [] := rfl
    show keepL (splitS [13, 10] 0 (R ++ [])) = [R] ∧ _
    have e2 := split_plain R [] _ _ p.2 e1
    refine ⟨?_, ?_⟩
    · rw [e2]
      unfold keepL
      rw [List.filter_cons, List.append_nil, hR]
      rfl
    · show (splitS [13, 10] 0 (R ++ [])).length ≤ 4
      rw [e2]
      exact Nat.le_of_ble_eq_true rfl
theorem split_page {R1 e1 R2 e2 R3 e3 : List Nat} (p1 : Pl R1) (p2 : Pl R2) (p3 : Pl R3) (h1 : EndN e1) (h2 : EndN e2) (h3 : EndN e3 ∨ e3 = []) :
    keepL (splitS [13, 10] 0 (page R1 (crlfS 0 e1) R2 (crlfS 0 e2) R3 (crlfS 0 e3))) = [R1, R2, R3] ∧ (splitS [13, 10] 0 (page R1 (crlfS 0 e1) R2 (crlfS 0 e2) R3 (crlfS 0 e3))).length ≤ 8 := by
  unfold page
  have a := split_row (t := R2 ++ (crlfS 0 e2 ++ (R3 ++ crlfS 0 e3))) p1 h1
  have b := split_row (t := R3 ++ crlfS 0 e3) p2 h2
  have c := split_last p3 h3
  rw [a.1, b.1, c.1]
  exact ⟨rfl, by omega⟩
theorem map_codes_inj : ∀ {a b : List Str}, a.map codes = b.map codes → a = b
  | [], [], _ => rfl
  | [], _ :: _, h => by simp at h
  | _ :: _, [], h => by simp at h
  | x :: a, y :: b, h => by
    rw [List.map_cons, List.map_cons, List.cons.injEq] at h
    rw [codes_inj h.1, map_codes_inj h.2]
theorem keep_map : ∀ l : List Str, (l.filter notEmpty).map codes = keepL (l.map codes)
  | [] => rfl
  | x :: l => by
    have ih := keep_map l
    unfold keepL at ih ⊢
    have e : notEmpty x = !(codes x).isEmpty := by
      unfold notEmpty
      have e0 : Str.ofString "" = ⟨#[]⟩ := rfl
      rw [e0]
      cases hx : (codes x).isEmpty with
      | true =>
        have : x = ⟨#[]⟩ := codes_inj (List.isEmpty_iff.mp hx)
        rw [this]; rfl
      | false =>
        rw [Bool.not_false, bne_iff_ne]
        intro h
        rw [h] at hx
        cases hx
    rw [List.map_cons, List.filter_cons, List.filter_cons, e]
    split
    · rw [List.map_cons, ih]
    · exact ih
end Mine
end
section
-- PL6
example : True := by
  w_top off
  trivial
open PySem PySem.Builtin PySem.Builtin.Str PySem.StrLaws
namespace Mine
section
variable {M : Str} {r1 e1 r2 e2 r3 e3 : List Nat} (h : codes M = page r1 e1 r2 e2 r3 e3) (p1 : Pl r1) (p2 : Pl r2) (p3 : Pl r3) (h1 : EndN e1) (h2 : EndN e2) (h3 : EndN e3 ∨ e3 = [])
include h h1 h2 h3
theorem size0 (l1 : r1.length ≤ 12) (l2 : r2.length ≤ 12) (l3 : r3.length ≤ 12) : M.cps.size ≤ 300 ∧ (escOf M).cps.size ≤ 300 := by
  have a := (end_len (.inl h1)).1
  have b := (end_len (.inl h2)).1
  have c := (end_len h3).1
  have x1 := escL_len r1
  have x2 := escL_len r2
  have x3 := escL_len r3
  refine ⟨?_, ?_⟩
  · rw [← codes_len, h, page_len]; omega
  · rw [← codes_len, esc_codes, h, escL_page h1 h2 h3, page_len]; omega
include p1 p2 p3
theorem send_esc (n : Nat) : codes (quoteN (n + 1) (escOf M)) = page (Dn (n + 1) (escL r1)) (crlfS 0 e1) (Dn (n + 1) (escL r2)) (crlfS 0 e2) (Dn (n + 1) (escL r3)) (crlfS 0 e3) := by
  rw [quoteN_codes, esc_codes, h, escL_page h1 h2 h3, quoteNL_page (escL_pl p1).1 (escL_pl p2).1 (escL_pl p3).1 h1 h2 h3]
theorem send_raw (n : Nat) : codes (quoteN (n + 1) M) = page (Dn (n + 1) r1) (crlfS 0 e1) (Dn (n + 1) r2) (crlfS 0 e2) (Dn (n + 1) r3) (crlfS 0 e3) := by
  rw [quoteN_codes, h, quoteNL_page p1 p2 p3 h1 h2 h3]
theorem esc_send (n : Nat) : codes (escOf (quoteN (n + 1) M)) = page (Dn (n + 1) (escL r1)) (crlfS 0 e1) (Dn (n + 1) (escL r2)) (crlfS 0 e2) (Dn (n + 1) (escL r3)) (crlfS 0 e3) := by
  rw [esc_codes, send_raw h p1 p2 p3 h1 h2 h3, escL_page (end_end h1) (end_end h2) (h3.elim (fun h => .inl (end_end h)) fun h => .inr (by rw [h]; rfl)), escL_dn _ p1, escL_dn _ p2, escL_dn _ p3]
theorem sizeN (l1 : r1.length ≤ 12) (l2 : r2.length ≤ 12) (l3 : r3.length ≤ 12) (n : Nat) (hn : n < 3) : (quoteN (n + 1) M).cps.size ≤ 300 ∧ (quoteN (n + 1) (escOf M)).cps.size ≤ 300 := by
  have a := (end_len (.inl h1)).2
  have b := (end_len (.inl h2)).2
  have c := (end_len h3).2
  have x1 := escL_len r1
  have x2 := escL_len r2
  have x3 := escL_len r3
  have y1 := dn_len (n + 1) r1
  have y2 := dn_len (n + 1) r2
  have y3 := dn_len (n + 1) r3
  have z1 := dn_len (n + 1) (escL r1)
  have z2 := dn_len (n + 1) (escL r2)
  have z3 := dn_len (n + 1) (escL r3)
  refine ⟨?_, ?_⟩
  · rw [← codes_len, send_raw h p1 p2 p3 h1 h2 h3, page_len]; omega
  · rw [← codes_len, send_esc h p1 p2 p3 h1 h2 h3, page_len]; omega
end
theorem fmod6 (x : Int) : 0 ≤ x.fmod 6 ∧ x.fmod 6 < 6 := by
  rw [Int.fmod_eq_emod_of_nonneg _ (by decide)]
  omega
theorem fmod3 (x : Int) : 0 ≤ x.fmod 3 ∧ x.fmod 3 < 3 := by
  rw [Int.fmod_eq_emod_of_nonneg _ (by decide)]
  omega
theorem fmod2 (x : Int) : x.fmod 2 = 0 ∨ x.fmod 2 = 1 := by
  rw [Int.fmod_eq_emod_of_nonneg _ (by decide)]
  omega
theorem mail_codes (x0 a1 a2 a3 a4 a5 a6 a7 a8 a9 a10 a11 a12 : Int) : codes (mailT x0 a1 a2 a3 a4 a5 a6 a7 a8 a9 a10 a11 a12) = page (rowC [a1, a2, a3, a4]) (codes (endT (x0.fmod 6))) (rowC [a5, a6, a7, a8]) (codes (endT ((x0.fdiv 6).fmod 6))) (rowC [a9, a10, a11, a12]) (codes (endT ((x0.fdiv 36).fmod 7))) := by
  rw [mailT_def, codes, join_empty]
  show codes _ ++ (codes _ ++ (codes _ ++ [])) = _
  rw [cat_codes, cat_codes, cat_codes, row_codes, row_codes, row_codes, List.append_nil]
  unfold page
  simp only [List.append_assoc]
theorem row_size {a b c d : Int} (h : ∀ k ∈ [a, b, c, d], Dig k) : 0 < (rowT a b c d).cps.size ∧ (rowT a b c d).cps.size ≤ 12 := by
  rw [← codes_len, row_codes]
  exact ⟨List.length_pos_iff.mpr (row_pl (by simp) h).1, row_len h⟩
theorem due_len {z : Int} (hz : 1 ≤ z ∧ z ≤ 3) {a b c d : Int} (h : ∀ k ∈ [a, b, c, d], Dig k) : (dueT z (rowT a b c d)).length ≤ 100 := by
  have p : Pl (codes (rowT a b c d)) := by rw [row_codes]; exact row_pl (by simp) h
  show (dueT z (rowT a b c d)).cps.size ≤ 100
  rw [← codes_len, due_codes hz p, row_codes]
  have x := dn_len z.toNat (escL (rowC [a, b, c, d]))
  have y := escL_len (rowC [a, b, c, d])
  have w := row_len h
  simp only [List.length_cons, List.length_nil] at w
  omega
theorem plain (x0 a1 a2 a3 a4 a5 a6 a7 a8 a9 a10 a11 a12 : Int) (d1 : ∀ k ∈ [a1, a2, a3, a4], Dig k) (d2 : ∀ k ∈ [a5, a6, a7, a8], Dig k) (d3 : ∀ k ∈ [a9, a10, a11, a12], Dig k) :
    (mailT x0 a1 a2 a3 a4 a5 a6 a7 a8 a9 a10 a11 a12).cps.size ≤ 600 ∧ (∀ k, k < 3 → (quoteN k (if (x0.fdiv 756).fmod 2 = 0 then escOf (mailT x0 a1 a2 a3 a4 a5 a6 a7 a8 a9 a10 a11 a12) else (mailT x0 a1 a2 a3 a4 a5 a6 a7 a8 a9 a10 a11 a12))).cps.size ≤ 600) ∧ (quoteN (1 + (x0.fdiv 252).fmod 3).toNat (if (x0.fdiv 756).fmod 2 = 0 then escOf (mailT x0 a1 a2 a3 a4 a5 a6 a7 a8 a9 a10 a11 a12) else (mailT x0 a1 a2 a3 a4 a5 a6 a7 a8 a9 a10 a11 a12))).cps.size ≤ 600 ∧ (if (x0.fdiv 756).fmod 2 = 1 then escOf (quoteN (1 + (x0.fdiv 252).fmod 3).toNat (if (x0.fdiv 756).fmod 2 = 0 then escOf (mailT x0 a1 a2 a3 a4 a5 a6 a7 a8 a9 a10 a11 a12) else (mailT x0 a1 a2 a3 a4 a5 a6 a7 a8 a9 a10 a11 a12))) else (quoteN (1 + (x0.fdiv 252).fmod 3).toNat (if (x0.fdiv 756).fmod 2 = 0 then escOf (mailT x0 a1 a2 a3 a4 a5 a6 a7 a8 a9 a10 a11 a12) else (mailT x0 a1 a2 a3 a4 a5 a6 a7 a8 a9 a10 a11 a12)))) = Txt.join (Str.ofString "") [dueT (1 + (x0.fdiv 252).fmod 3) (rowT a1 a2 a3 a4) ++ snT (x0.fmod 6), dueT (1 + (x0.fdiv 252).fmod 3) (rowT a5 a6 a7 a8) ++ snT ((x0.fdiv 6).fmod 6), dueT (1 + (x0.fdiv 252).fmod 3) (rowT a9 a10 a11 a12) ++ snT ((x0.fdiv 36).fmod 7)] ∧ (if (x0.fdiv 756).fmod 2 = 1 then escOf (quoteN (1 + (x0.fdiv 252).fmod 3).toNat (if (x0.fdiv 756).fmod 2 = 0 then escOf (mailT x0 a1 a2 a3 a4 a5 a6 a7 a8 a9 a10 a11 a12) else (mailT x0 a1 a2 a3 a4 a5 a6 a7 a8 a9 a10 a11 a12))) else (quoteN (1 + (x0.fdiv 252).fmod 3).toNat (if (x0.fdiv 756).fmod 2 = 0 then escOf (mailT x0 a1 a2 a3 a4 a5 a6 a7 a8 a9 a10 a11 a12) else (mailT x0 a1 a2 a3 a4 a5 a6 a7 a8 a9 a10 a11 a12)))).cps.size ≤ 600 ∧
    (Txt.split (if (x0.fdiv 756).fmod 2 = 1 then escOf (quoteN (1 + (x0.fdiv 252).fmod 3).toNat (if (x0.fdiv 756).fmod 2 = 0 then escOf (mailT x0 a1 a2 a3 a4 a5 a6 a7 a8 a9 a10 a11 a12) else (mailT x0 a1 a2 a3 a4 a5 a6 a7 a8 a9 a10 a11 a12))) else (quoteN (1 + (x0.fdiv 252).fmod 3).toNat (if (x0.fdiv 756).fmod 2 = 0 then escOf (mailT x0 a1 a2 a3 a4 a5 a6 a7 a8 a9 a10 a11 a12) else (mailT x0 a1 a2 a3 a4 a5 a6 a7 a8 a9 a10 a11 a12)))) (Str.ofString "\r\n")).length ≤ 100 ∧ (Txt.split (if (x0.fdiv 756).fmod 2 = 1 then escOf (quoteN (1 + (x0.fdiv 252).fmod 3).toNat (if (x0.fdiv 756).fmod 2 = 0 then escOf (mailT x0 a1 a2 a3 a4 a5 a6 a7 a8 a9 a10 a11 a12) else (mailT x0 a1 a2 a3 a4 a5 a6 a7 a8 a9 a10 a11 a12))) else (quoteN (1 + (x0.fdiv 252).fmod 3).toNat (if (x0.fdiv 756).fmod 2 = 0 then escOf (mailT x0 a1 a2 a3 a4 a5 a6 a7 a8 a9 a10 a11 a12) else (mailT x0 a1 a2 a3 a4 a5 a6 a7 a8 a9 a10 a11 a12)))) (Str.ofString "\r\n")).filter notEmpty = [dueT (1 + (x0.fdiv 252).fmod 3) (rowT a1 a2 a3 a4), dueT (1 + (x0.fdiv 252).fmod 3) (rowT a5 a6 a7 a8), dueT (1 + (x0.fdiv 252).fmod 3) (rowT a9 a10 a11 a12)] := by
  have hz : 1 ≤ (1 + (x0.fdiv 252).fmod 3) ∧ (1 + (x0.fdiv 252).fmod 3) ≤ 3 := by have := fmod3 (x0.fdiv 252); omega
  obtain ⟨n, hn⟩ : ∃ n, (1 + (x0.fdiv 252).fmod 3).toNat = n + 1 := ⟨(1 + (x0.fdiv 252).fmod 3).toNat - 1, by omega⟩
  have hn3 : n < 3 := by omega
  have k0 := fmod6 x0
  have k1 := fmod6 (x0.fdiv 6)
  have k2 := fm7 (x0.fdiv 36)
  have E1 := end_ok ⟨k0.1, Int.lt_trans k0.2 (by decide)⟩
  have E2 := end_ok ⟨k1.1, Int.lt_trans k1.2 (by decide)⟩
  have E3 := end_ok k2
  have h1 := E1.1 k0.2
  have h2 := E2.1 k1.2
  have h3 := E3.2.1
  have h := mail_codes x0 a1 a2 a3 a4 a5 a6 a7 a8 a9 a10 a11 a12
  have p1 := row_pl (l := [a1, a2, a3, a4]) (by simp) d1
  have p2 := row_pl (l := [a5, a6, a7, a8]) (by simp) d2
  have p3 := row_pl (l := [a9, a10, a11, a12]) (by simp) d3
  have l1 : (rowC [a1, a2, a3, a4]).length ≤ 12 := row_len d1
  have l2 : (rowC [a5, a6, a7, a8]).length ≤ 12 := row_len d2
  have l3 : (rowC [a9, a10, a11, a12]).length ≤ 12 := row_len d3
  have s0 := size0 h h1 h2 h3 l1 l2 l3
  have sN := sizeN h p1 p2 p3 h1 h2 h3 l1 l2 l3
  have M3c : codes (if (x0.fdiv 756).fmod 2 = 1 then escOf (quoteN (1 + (x0.fdiv 252).fmod 3).toNat (if (x0.fdiv 756).fmod 2 = 0 then escOf (mailT x0 a1 a2 a3 a4 a5 a6 a7 a8 a9 a10 a11 a12) else (mailT x0 a1 a2 a3 a4 a5 a6 a7 a8 a9 a10 a11 a12))) else (quoteN (1 + (x0.fdiv 252).fmod 3).toNat (if (x0.fdiv 756).fmod 2 = 0 then escOf (mailT x0 a1 a2 a3 a4 a5 a6 a7 a8 a9 a10 a11 a12) else (mailT x0 a1 a2 a3 a4 a5 a6 a7 a8 a9 a10 a11 a12)))) = page (Dn (n + 1) (escL (rowC [a1, a2, a3, a4]))) (crlfS 0 (codes (endT (x0.fmod 6)))) (Dn (n + 1) (escL (rowC [a5, a6, a7, a8]))) (crlfS 0 (codes (endT ((x0.fdiv 6).fmod 6)))) (Dn (n + 1) (escL (rowC [a9, a10, a11, a12]))) (crlfS 0 (codes (endT ((x0.fdiv 36).fmod 7)))) := by
    rw [hn]
    rcases fmod2 (x0.fdiv 756) with e | e
    · rw [if_pos e, if_neg (by rw [e]; decide)]
      exact send_esc h p1 p2 p3 h1 h2 h3 n
    · rw [if_neg (show ¬ (x0.fdiv 756).fmod 2 = 0 by rw [e]; decide), if_pos e]
      exact esc_send h p1 p2 p3 h1 h2 h3 n
  have q1 := dn_pl (n + 1) (escL_pl p1).1
  have q2 := dn_pl (n + 1) (escL_pl p2).1
  have q3 := dn_pl (n + 1) (escL_pl p3).1
  have D1 : codes (dueT (1 + (x0.fdiv 252).fmod 3) (rowT a1 a2 a3 a4)) = Dn (n + 1) (escL (rowC [a1, a2, a3, a4])) := by rw [due_codes hz (by rw [row_codes]; exact p1), row_codes, hn]
  have D2 : codes (dueT (1 + (x0.fdiv 252).fmod 3) (rowT a5 a6 a7 a8)) = Dn (n + 1) (escL (rowC [a5, a6, a7, a8])) := by rw [due_codes hz (by rw [row_codes]; exact p2), row_codes, hn]
  have D3 : codes (dueT (1 + (x0.fdiv 252).fmod 3) (rowT a9 a10 a11 a12)) = Dn (n + 1) (escL (rowC [a9, a10, a11, a12])) := by rw [due_codes hz (by rw [row_codes]; exact p3), row_codes, hn]
  have sp := split_page q1 q2 q3 h1 h2 h3
  have spc : (Txt.split (if (x0.fdiv 756).fmod 2 = 1 then escOf (quoteN (1 + (x0.fdiv 252).fmod 3).toNat (if (x0.fdiv 756).fmod 2 = 0 then escOf (mailT x0 a1 a2 a3 a4 a5 a6 a7 a8 a9 a10 a11 a12) else (mailT x0 a1 a2 a3 a4 a5 a6 a7 a8 a9 a10 a11 a12))) else (quoteN (1 + (x0.fdiv 252).fmod 3).toNat (if (x0.fdiv 756).fmod 2 = 0 then escOf (mailT x0 a1 a2 a3 a4 a5 a6 a7 a8 a9 a10 a11 a12) else (mailT x0 a1 a2 a3 a4 a5 a6 a7 a8 a9 a10 a11 a12)))) (Str.ofString "\r\n")).map codes = splitS [13, 10] 0 (codes (if (x0.fdiv 756).fmod 2 = 1 then escOf (quoteN (1 + (x0.fdiv 252).fmod 3).toNat (if (x0.fdiv 756).fmod 2 = 0 then escOf (mailT x0 a1 a2 a3 a4 a5 a6 a7 a8 a9 a10 a11 a12) else (mailT x0 a1 a2 a3 a4 a5 a6 a7 a8 a9 a10 a11 a12))) else (quoteN (1 + (x0.fdiv 252).fmod 3).toNat (if (x0.fdiv 756).fmod 2 = 0 then escOf (mailT x0 a1 a2 a3 a4 a5 a6 a7 a8 a9 a10 a11 a12) else (mailT x0 a1 a2 a3 a4 a5 a6 a7 a8 a9 a10 a11 a12))))) := split_codes (y := Str.ofString "\r\n") (by decide) (if (x0.fdiv 756).fmod 2 = 1 then escOf (quoteN (1 + (x0.fdiv 252).fmod 3).toNat (if (x0.fdiv 756).fmod 2 = 0 then escOf (mailT x0 a1 a2 a3 a4 a5 a6 a7 a8 a9 a10 a11 a12) else (mailT x0 a1 a2 a3 a4 a5 a6 a7 a8 a9 a10 a11 a12))) else (quoteN (1 + (x0.fdiv 252).fmod 3).toNat (if (x0.fdiv 756).fmod 2 = 0 then escOf (mailT x0 a1 a2 a3 a4 a5 a6 a7 a8 a9 a10 a11 a12) else (mailT x0 a1 a2 a3 a4 a5 a6 a7 a8 a9 a10 a11 a12)))) (by decide +kernel)
  rw [M3c] at spc
  refine ⟨by omega, ?_, ?_, ?_, ?_, ?_, ?_⟩
  · intro k hk
    rcases fmod2 (x0.fdiv 756) with e | e
    · rw [if_pos e]
      cases k with
      | zero => exact Nat.le_trans s0.2 (by decide)
      | succ k => exact Nat.le_trans (sN k (by omega)).2 (by decide)
    · rw [if_neg (by rw [e]; decide)]
      cases k with
      | zero => exact Nat.le_trans s0.1 (by decide)
      | succ k => exact Nat.le_trans (sN k (by omega)).1 (by decide)
  · rw [hn]
    rcases fmod2 (x0.fdiv 756) with e | e
    · rw [if_pos e]
      exact Nat.le_trans (sN n hn3).2 (by decide)
    · rw [if_neg (by rw [e]; decide)]
      exact Nat.le_trans (sN n hn3).1 (by decide)
  · apply codes_inj
    rw [M3c]
    symm
    rw [codes, join_empty]
    show codes _ ++ (codes _ ++ (codes _ ++ [])) = _
    rw [cat_codes, cat_codes, cat_codes, D1, D2, D3, E1.2.2, E2.2.2, E3.2.2, List.append_nil]
    unfold page
    simp only [List.append_assoc]
  · rw [← codes_len, M3c, page_len]
    have a := (end_len (.inl h1)).2
    have b := (end_len (.inl h2)).2
    have c := (end_len h3).2
    have x1 := escL_len (rowC [a1, a2, a3, a4])
    have x2 := escL_len (rowC [a5, a6, a7, a8])
    have x3 := escL_len (rowC [a9, a10, a11, a12])
    have z1 := dn_len (n + 1) (escL (rowC [a1, a2, a3, a4]))
    have z2 := dn_len (n + 1) (escL (rowC [a5, a6, a7, a8]))
    have z3 := dn_len (n + 1) (escL (rowC [a9, a10, a11, a12]))
    omega
  · have := congrArg List.length spc
    rw [List.length_map] at this
    rw [this]
    exact Nat.le_trans sp.2 (by decide)
  · apply map_codes_inj
    rw [keep_map, spc, sp.1, List.map_cons, List.map_cons, List.map_cons, List.map_nil, D1, D2, D3]
end Mine
end
section
-- PL7
example : True := by
  w_top off
  trivial
open PySem
namespace Mine
/-- one step of the rim, told three ways -/
noncomputable def edge (i j : Int) (a b : Int) : Int := (if a = i ∧ b = j then 1 else 0) - (if a = j ∧ b = i then 1 else 0)
theorem fm3 (a : Int) : a.fmod 3 = 0 ∨ a.fmod 3 = 1 ∨ a.fmod 3 = 2 := by
  rw [Int.fmod_eq_emod_of_nonneg _ (by decide)]
  omega
theorem turn_edges (i j : Int) (hij : (i = 0 ∧ j = 1) ∨ (i = 1 ∧ j = 2) ∨ (i = 2 ∧ j = 0)) (a b c : Int) : turnZ a b c = edge i j (a.fmod 3) (b.fmod 3) + edge i j (b.fmod 3) (c.fmod 3) + edge i j (c.fmod 3) (a.fmod 3) := by
  have hd : Int.fmod (b - a) 3 = Int.fmod (b.fmod 3 - a.fmod 3) 3 := by
    simp only [Int.fmod_eq_emod_of_nonneg _ (show (0 : Int) ≤ 3 by decide)]
    omega
  unfold turnZ
  rw [hd]
  unfold edge
  rcases fm3 a with ha | ha | ha <;> rcases fm3 b with hb | hb | hb <;> rcases fm3 c with hc | hc | hc <;> rw [ha, hb, hc] <;> rcases hij with ⟨rfl, rfl⟩ | ⟨rfl, rfl⟩ | ⟨rfl, rfl⟩ <;> decide
theorem edge_anti (i j a b : Int) : edge i j b a = - edge i j a b := by
  unfold edge
  have e1 : (b = i ∧ a = j) ↔ (a = j ∧ b = i) := and_comm
  have e2 : (b = j ∧ a = i) ↔ (a = i ∧ b = j) := and_comm
  simp only [e1, e2]
  omega
theorem cast_if (p : Prop) [Decidable p] : (((if decide p = true then 1 else 0 : Nat)) : Int) = if p then 1 else 0 := by
  by_cases h : p
  · rw [if_pos (decide_eq_true h), if_pos h]; rfl
  · rw [if_neg (by simp [h]), if_neg h]; rfl
theorem cnt_edge_list (i j : Int) : ∀ ps : List (Int × Int), ((ps.countP (fun p => decide (p = (i, j))) : Nat) : Int) - (ps.countP (fun p => decide (p = (j, i))) : Nat) = (ps.map fun p => edge i j p.1 p.2).sum
  | [] => rfl
  | (a, b) :: ps => by
    have ih := cnt_edge_list i j ps
    rw [List.countP_cons, List.countP_cons, List.map_cons, List.sum_cons, ← ih]
    unfold edge
    have e1 : decide ((a, b) = (i, j)) = decide (a = i ∧ b = j) := by simp
    have e2 : decide ((a, b) = (j, i)) = decide (a = j ∧ b = i) := by simp
    rw [e1, e2]
    rw [Int.natCast_add, Int.natCast_add, cast_if, cast_if]
    generalize (if a = i ∧ b = j then (1 : Int) else 0) = u
    generalize (if a = j ∧ b = i then (1 : Int) else 0) = v
    generalize ((ps.countP fun p => decide (p = (i, j)) : Nat) : Int) = p
    generalize ((ps.countP fun p => decide (p = (j, i)) : Nat) : Int) = q
    clear ih e1 e2
    omega
theorem sperner (a1 a2 a3 a4 a5 a6 a7 a8 a9 a10 a11 a12 : Int) (i j : Int) (hij : (i = 0 ∧ j = 1) ∨ (i = 1 ∧ j = 2) ∨ (i = 2 ∧ j = 0)) :
    ((cntZ (rimZ [a1, a2, a3, a4, a8, a12, a11, a10, a9, a5]) i j : Nat) : Int) - (cntZ (rimZ [a1, a2, a3, a4, a8, a12, a11, a10, a9, a5]) j i : Nat) = fullZ (worth1 a1) (worth1 a2) (worth1 a3) (worth1 a4) (worth1 a5) (worth1 a6) (worth1 a7) (worth1 a8) (worth1 a9) (worth1 a10) (worth1 a11) (worth1 a12) := by
  have e := cnt_edge_list i j (pairsL (rimZ [a1, a2, a3, a4, a8, a12, a11, a10, a9, a5]))
  have ep : (pairsL (rimZ [a1, a2, a3, a4, a8, a12, a11, a10, a9, a5])).map (fun p => edge i j p.1 p.2) = [edge i j ((worth1 a5).fmod 3) ((worth1 a1).fmod 3), edge i j ((worth1 a1).fmod 3) ((worth1 a2).fmod 3), edge i j ((worth1 a2).fmod 3) ((worth1 a3).fmod 3), edge i j ((worth1 a3).fmod 3) ((worth1 a4).fmod 3), edge i j ((worth1 a4).fmod 3) ((worth1 a8).fmod 3), edge i j ((worth1 a8).fmod 3) ((worth1 a12).fmod 3), edge i j ((worth1 a12).fmod 3) ((worth1 a11).fmod 3), edge i j ((worth1 a11).fmod 3) ((worth1 a10).fmod 3), edge i j ((worth1 a10).fmod 3) ((worth1 a9).fmod 3), edge i j ((worth1 a9).fmod 3) ((worth1 a5).fmod 3)] := rfl
  rw [ep] at e
  simp only [List.sum_cons, List.sum_nil] at e
  show ((List.countP _ _ : Nat) : Int) - (List.countP _ _ : Nat) = _
  rw [e]
  unfold fullZ
  simp only [turn_edges i j hij]
  have h0 := edge_anti i j ((worth1 a1).fmod 3) ((worth1 a6).fmod 3)
  have h1 := edge_anti i j ((worth1 a2).fmod 3) ((worth1 a7).fmod 3)
  have h2 := edge_anti i j ((worth1 a3).fmod 3) ((worth1 a8).fmod 3)
  have h3 := edge_anti i j ((worth1 a5).fmod 3) ((worth1 a10).fmod 3)
  have h4 := edge_anti i j ((worth1 a6).fmod 3) ((worth1 a11).fmod 3)
  have h5 := edge_anti i j ((worth1 a7).fmod 3) ((worth1 a12).fmod 3)
  have h6 := edge_anti i j ((worth1 a2).fmod 3) ((worth1 a6).fmod 3)
  have h7 := edge_anti i j ((worth1 a3).fmod 3) ((worth1 a7).fmod 3)
  have h8 := edge_anti i j ((worth1 a6).fmod 3) ((worth1 a10).fmod 3)
  have h9 := edge_anti i j ((worth1 a7).fmod 3) ((worth1 a11).fmod 3)
  have h10 := edge_anti i j ((worth1 a5).fmod 3) ((worth1 a6).fmod 3)
  have h11 := edge_anti i j ((worth1 a6).fmod 3) ((worth1 a7).fmod 3)
  have h12 := edge_anti i j ((worth1 a7).fmod 3) ((worth1 a8).fmod 3)
  omega
end Mine
end
section
-- LawAll
example : True := by
  w_top off
  trivial
open PySem PySem.W PyProof.Rows PySem.Spec
namespace Mine
theorem seg_step {M : Model} {A : Around} {env : Env} {i n : Nat} {Q : Flow → Shared → Prop} {E : Value → Shared → Prop} {s : Shared}
    (h : wpAny M A (execs ((lawBody.drop i).take n) env) (fun f s' => match f with | .next => wpAny M A (execs (lawBody.drop (i + n)) env) Q E s' | f => Q f s') E s) : wpAny M A (execs (lawBody.drop i) env) Q E s := by
  have e : lawBody.drop i = (lawBody.drop i).take n ++ lawBody.drop (i + n) := by rw [← List.drop_drop, List.take_append_drop]
  rw [e]
  exact execs_append _ _ h
theorem ints4 {zs : List Value} {a b c d : Int} (h : IntsAre zs [a, b, c, d]) : ∃ t1 t2 t3 t4 : Tok, zs = [.int a t1, .int b t2, .int c t3, .int d t4] := by
  obtain ⟨t, r, e, h⟩ := h.cons_inv
  obtain ⟨t2, t3, t4, e2⟩ := ints3 h
  subst e e2
  exact ⟨_, _, _, _, rfl⟩
theorem ints10 {zs : List Value} {a b c d e f g h i j : Int} (hh : IntsAre zs [a, b, c, d, e, f, g, h, i, j]) : ∃ t0 t1 t2 t3 t4 t5 t6 t7 t8 t9 : Tok, zs = [.int a t0, .int b t1, .int c t2, .int d t3, .int e t4, .int f t5, .int g t6, .int h t7, .int i t8, .int j t9] := by
  obtain ⟨u0, r0, rfl, k1⟩ := hh.cons_inv
  obtain ⟨u1, r1, rfl, k2⟩ := k1.cons_inv
  obtain ⟨u2, r2, rfl, k3⟩ := k2.cons_inv
  obtain ⟨u3, r3, rfl, k4⟩ := k3.cons_inv
  obtain ⟨u4, r4, rfl, k5⟩ := k4.cons_inv
  obtain ⟨u5, r5, rfl, k6⟩ := k5.cons_inv
  obtain ⟨u6, r6, rfl, k7⟩ := k6.cons_inv
  obtain ⟨v4, v5, v6, rfl⟩ := ints3 k7
  exact ⟨_, _, _, _, _, _, _, _, _, _, rfl⟩
theorem ne_data {h₀ h : Heap} {L : Addr} {led : List (Addr × Obj)} (N : News h₀ L h led) {a b : Addr} {oa ob : Obj} (ha : (a, oa) ∈ led) (hb : (b, ob) ∈ led) (hd : oa.data ≠ ob.data) : @Ne Nat a b := by
  intro e
  have e1 := (N _ ha).1
  have e2 := (N _ hb).1
  have e' : a = b := e
  subst e'
  exact hd (congrArg Obj.data (Option.some.inj (e1.symm.trans e2)))
theorem ne_lst {h₀ h : Heap} {L : Addr} {led : List (Addr × Obj)} (N : News h₀ L h led) {a b : Addr} {its : Array Value} {n : Nat} {oa ob : Obj} {v : Option Value} (ha : (a, oa) ∈ led) (hb : (b, ob) ∈ led) (h1 : oa.data = .seq its n) (h2 : ob.data = .cell v) : @Ne Nat a b :=
  ne_data N ha hb (by rw [h1, h2]; exact fun h => nomatch h)
theorem law_all (w : World) (mean : ExcName → Option Value) (mg mb : Str → Option Value) (h₀ : Heap) (L fa : Nat) (cd : Value) (m : Str → Option Value) (s : Shared) (Q : Flow → Shared → Prop) (E : Value → Shared → Prop) (l : Addr) (vs : List Value) (ns : List Int) (o1 o2 o3 o4 o5 o6 o7 : Obj)
    (B : Below callerA h₀ [] h₀) (F : Fr h₀ L s.heap m) (X : (hd.heap_1 w.params).In h₀)
    (N : News h₀ L s.heap [(L + 1 + 1 + 1 + 1 + 1 + 1 + 1, o7), (L + 1 + 1 + 1 + 1 + 1 + 1, o6), (L + 1 + 1 + 1 + 1 + 1, o5), (L + 1 + 1 + 1 + 1, o4), (L + 1 + 1 + 1, o3), (L + 1 + 1, o2), (L + 1, o1)])
    (c1 : o1.data = .cell none) (c2 : o2.data = .cell none) (c3 : o3.data = .cell none) (c4 : o4.data = .cell none) (c5 : o5.data = .cell none) (c6 : o6.data = .cell none) (c7 : o7.data = .cell none)
    (T : Top hd.view_1 (looseW hd.view_1 loose3) mean mg mb h₀) (hE : PassesOwn (model PySem.Challenge.rw_st0008_01.row.prog w) (callerA.deeper (lawEnv L fa cd)) (lawEnv L fa cd) E)
    (hl : h₀.IsList l vs.toArray) (hi : IntsAre vs ns) (hn : ns.length ≤ 63) (hm : m (Str.ofString "script") = some (.ref l))
    (hret : ∀ (m' : Str → Option Value) (h' : Heap) (tk' : Nat), Fr h₀ L h' m' → News h₀ L h' [] → Q (.ret (.bool true)) { s with heap := h', toks := tk' }) :
    wpAny (model PySem.Challenge.rw_st0008_01.row.prog w) (callerA.deeper (lawEnv L fa cd)) (execs lawBody (lawEnv L fa cd)) Q E s := by
  show wpAny _ _ (execs (lawBody.drop 0) _) _ _ _
  refine seg_step (n := 8) ?_
  refine segA w mean mg mb h₀ L fa cd m s _ E l vs ns o1 o2 o3 o4 o5 o6 o7 B F X N c1 c2 c3 c4 c5 c6 c7 T hl hi hn hm ?_
  clear N F hm
  intro x0 x1 x2 x3 x4 x5 x6 x7 x8 x9 x10 x11 x12 t0 t1 t2 t3 t4 t5 t6 t7 t8 t9 t10 t11 t12 tf tt u0 u1 u2 mk se en wo sg ce sgs ens ses wos q1 q2 q3 q4 q5 q6 q7 m1 h1 k1 hb hsg hen hse hwo f1 f2 F1 N1 d1 d2 d3 d4 d5 d6 d7 hord
  show wpAny _ _ (execs (lawBody.drop 8) _) _ _ _
  refine seg_step (n := 1) ?_
  refine segB1 w mean mg mb h₀ L fa cd m1 _ _ E x0 x1 x2 x3 x4 x5 x6 x7 x8 x9 x10 x11 x12 t0 t1 t2 t3 t4 t5 t6 t7 t8 t9 t10 t11 t12 tf tt u0 u1 u2 mk se en wo sg ce sgs ens ses wos q1 q2 q3 q4 q5 q6 q7 B F1 X N1 T hb hsg hen hse hwo f1 f2 d1 d2 d3 d4 d5 d6 d7 hord ?_
  clear N1 F1 f1 f2
  intro a1 a2 a3 a4 a5 a6 a7 a8 a9 a10 a11 a12 zs1 zs2 zs3 dr e1 e2 e3 m2 h2 k2 hdig hz1 hz2 hz3 f1 f2 f3 F2 N2
  show wpAny _ _ (execs (lawBody.drop 9) _) _ _ _
  refine seg_step (n := 2) ?_
  refine segB2 w mean mg mb h₀ L fa cd m2 _ _ E x0 a1 a2 a3 a4 a5 a6 a7 a8 a9 a10 a11 a12 tf tt u0 u1 u2 dr e1 e2 e3 mk se en wo sg zs1 zs2 zs3 sgs ens ses wos q1 q2 q3 q4 q5 q6 q7 B F2 X N2 T hb.1.1 hdig hz1 hz2 hz3 hsg hen hse hwo f1 f2 f3 d2 d3 d4 d5 d6 d7 ?_
  clear N2 F2 f1 f2 f3
  obtain ⟨s1, s2, s3, s4, rfl⟩ := ints4 hz1
  obtain ⟨s5, s6, s7, s8, rfl⟩ := ints4 hz2
  obtain ⟨s9, s10, s11, s12, rfl⟩ := ints4 hz3
  intro rs ro tm m3 h3 k3 hrs f1 f2 f3 f4 f5 F3 N3
  obtain ⟨b1, b2, b3, b4, b5, b6, b7, b8, b9, b10, b11, b12⟩ := hdig
  have D1 : ∀ k ∈ [a1, a2, a3, a4], Dig k := by
    intro k hk; simp only [List.mem_cons, List.not_mem_nil, or_false] at hk; rcases hk with rfl | rfl | rfl | rfl <;> assumption
  have D2 : ∀ k ∈ [a5, a6, a7, a8], Dig k := by
    intro k hk; simp only [List.mem_cons, List.not_mem_nil, or_false] at hk; rcases hk with rfl | rfl | rfl | rfl <;> assumption
  have D3 : ∀ k ∈ [a9, a10, a11, a12], Dig k := by
    intro k hk; simp only [List.mem_cons, List.not_mem_nil, or_false] at hk; rcases hk with rfl | rfl | rfl | rfl <;> assumption
  obtain ⟨P1, P2, P3, P4, P5, P6, P7⟩ := plain x0 a1 a2 a3 a4 a5 a6 a7 a8 a9 a10 a11 a12 D1 D2 D3
  have hz : 1 ≤ (1 + (x0.fdiv 252).fmod 3) ∧ (1 + (x0.fdiv 252).fmod 3) ≤ 3 := by have := fmod3 (x0.fdiv 252); omega
  show wpAny _ _ (execs (lawBody.drop 11) _) _ _ _
  refine seg_step (n := 1) ?_
  refine segC1 w mean mg mb h₀ L fa cd m3 _ _ E _ x0 (mailT x0 a1 a2 a3 a4 a5 a6 a7 a8 a9 a10 a11 a12) tf tm B F3 X N3 T f1 f5 P1 ?_
  clear F3 N3
  intro m4 t4 h4 k4 g1 g2 F4 N4
  show wpAny _ _ (execs (lawBody.drop 12) _) _ _ _
  refine seg_step (n := 1) ?_
  refine segC2 w mean mg mb h₀ L fa cd m4 _ _ E _ q6 (if (x0.fdiv 756).fmod 2 = 0 then escOf (mailT x0 a1 a2 a3 a4 a5 a6 a7 a8 a9 a10 a11 a12) else (mailT x0 a1 a2 a3 a4 a5 a6 a7 a8 a9 a10 a11 a12)) t4 tt (1 + (x0.fdiv 252).fmod 3) B F4 X N4 T hE g1 (by simp only [List.mem_cons]; simp) d6 (by omega) P2 ?_
  clear F4 N4
  intro m5 t5 h5 k5 g3 g4 F5 N5
  show wpAny _ _ (execs (lawBody.drop 13) _) _ _ _
  refine seg_step (n := 1) ?_
  have f1' : m5 (Str.ofString "form") = some (.int x0 tf) := by rw [g4 _ (by decide +kernel) (by decide +kernel), g2 _ (by decide +kernel)]; exact f1
  refine segC3 w mean mg mb h₀ L fa cd m5 _ _ E _ x0 (quoteN (1 + (x0.fdiv 252).fmod 3).toNat (if (x0.fdiv 756).fmod 2 = 0 then escOf (mailT x0 a1 a2 a3 a4 a5 a6 a7 a8 a9 a10 a11 a12) else (mailT x0 a1 a2 a3 a4 a5 a6 a7 a8 a9 a10 a11 a12))) tf t5 B F5 X N5 T f1' g3 P3 ?_
  clear F5 N5
  intro m6 t6 h6 k6 g5 g6 F6 N6
  have keep6 : ∀ y, y ≠ Str.ofString "mail" → y ≠ Str.ofString "_" → m6 y = m3 y := fun y h1 h2 => by rw [g6 y h1, g4 y h1 h2, g2 y h1]
  show wpAny _ _ (execs (lawBody.drop 14) _) _ _ _
  refine seg_step (n := 1) ?_
  refine segD1 w mean mg mb h₀ L fa cd m6 _ _ E _ q6 tt (1 + (x0.fdiv 252).fmod 3) ro rs (rowT a1 a2 a3 a4) (rowT a5 a6 a7 a8) (rowT a9 a10 a11 a12) B F6 X N6 T (by rw [keep6 _ (by decide +kernel) (by decide +kernel)]; exact f4) (by simp only [List.mem_cons]; simp) d6 hz (.head _) hrs (row_size D1) (row_size D2) (row_size D3) ?_
  clear F6 N6
  intro ds du m7 h7 k7 hds g7 g8 F7 N7 _
  show wpAny _ _ (execs (lawBody.drop 15) _) _ _ _
  refine seg_step (n := 1) ?_
  have N7' : News h₀ L h7 [(du, LCg.lst ds), (mk, listOf #[.int (x0.fmod 6) u0, .int ((x0.fdiv 6).fmod 6) u1, .int ((x0.fdiv 36).fmod 7) u2] 0), (se, listOf ses.toArray 0), (L + 1 + 1 + 1 + 1 + 1, q5), (dr, LCg.lst [.ref e1, .ref e2, .ref e3]), (e3, LCg.lst [.int a9 s9, .int a10 s10, .int a11 s11, .int a12 s12]), (e2, LCg.lst [.int a5 s5, .int a6 s6, .int a7 s7, .int a8 s8]), (e1, LCg.lst [.int a1 s1, .int a2 s2, .int a3 s3, .int a4 s4]), (wo, listOf wos.toArray 0), (L + 1 + 1 + 1 + 1 + 1 + 1 + 1, q7), (L + 1 + 1 + 1 + 1 + 1 + 1, q6), (L + 1 + 1 + 1, q3)] := News.perm N7 (SubL.mem (by k_subL))
  clear N7
  have g5' : m7 (Str.ofString "mail") = some (.str (if (x0.fdiv 756).fmod 2 = 1 then escOf (quoteN (1 + (x0.fdiv 252).fmod 3).toNat (if (x0.fdiv 756).fmod 2 = 0 then escOf (mailT x0 a1 a2 a3 a4 a5 a6 a7 a8 a9 a10 a11 a12) else (mailT x0 a1 a2 a3 a4 a5 a6 a7 a8 a9 a10 a11 a12))) else (quoteN (1 + (x0.fdiv 252).fmod 3).toNat (if (x0.fdiv 756).fmod 2 = 0 then escOf (mailT x0 a1 a2 a3 a4 a5 a6 a7 a8 a9 a10 a11 a12) else (mailT x0 a1 a2 a3 a4 a5 a6 a7 a8 a9 a10 a11 a12)))) t6) := by rw [g8 _ (by decide +kernel)]; exact g5
  refine segD2 w mean mg mb h₀ L fa cd m7 _ _ E _ q5 t6 u0 u1 u2 _ _ _ du mk se ds ses (if (x0.fdiv 756).fmod 2 = 1 then escOf (quoteN (1 + (x0.fdiv 252).fmod 3).toNat (if (x0.fdiv 756).fmod 2 = 0 then escOf (mailT x0 a1 a2 a3 a4 a5 a6 a7 a8 a9 a10 a11 a12) else (mailT x0 a1 a2 a3 a4 a5 a6 a7 a8 a9 a10 a11 a12))) else (quoteN (1 + (x0.fdiv 252).fmod 3).toNat (if (x0.fdiv 756).fmod 2 = 0 then escOf (mailT x0 a1 a2 a3 a4 a5 a6 a7 a8 a9 a10 a11 a12) else (mailT x0 a1 a2 a3 a4 a5 a6 a7 a8 a9 a10 a11 a12)))) (dueT (1 + (x0.fdiv 252).fmod 3) (rowT a1 a2 a3 a4)) (dueT (1 + (x0.fdiv 252).fmod 3) (rowT a5 a6 a7 a8)) (dueT (1 + (x0.fdiv 252).fmod 3) (rowT a9 a10 a11 a12)) B F7 X N7' T g5' g7 (by rw [g8 _ (by decide +kernel), keep6 _ (by decide +kernel) (by decide +kernel)]; exact f2) d5 hds hse (fm6 x0) (fm6 (x0.fdiv 6)) (fm7 (x0.fdiv 36)) (due_len hz D1) (due_len hz D2) (due_len hz D3) P4 ?_
  clear F7 N7'
  intro h8 k8 F8 N8
  show wpAny _ _ (execs (lawBody.drop 16) _) _ _ _
  refine seg_step (n := 1) ?_
  have N8' : News h₀ L h8 [(dr, LCg.lst [.ref e1, .ref e2, .ref e3]), (e3, LCg.lst [.int a9 s9, .int a10 s10, .int a11 s11, .int a12 s12]), (e2, LCg.lst [.int a5 s5, .int a6 s6, .int a7 s7, .int a8 s8]), (e1, LCg.lst [.int a1 s1, .int a2 s2, .int a3 s3, .int a4 s4]), (wo, listOf wos.toArray 0), (L + 1 + 1 + 1 + 1 + 1 + 1 + 1, q7), (L + 1 + 1 + 1 + 1 + 1 + 1, q6), (L + 1 + 1 + 1, q3)] := News.perm N8 (SubL.mem (by k_subL))
  clear N8
  refine segE1 w mean mg mb h₀ L fa cd m7 _ _ E _ t6 (if (x0.fdiv 756).fmod 2 = 1 then escOf (quoteN (1 + (x0.fdiv 252).fmod 3).toNat (if (x0.fdiv 756).fmod 2 = 0 then escOf (mailT x0 a1 a2 a3 a4 a5 a6 a7 a8 a9 a10 a11 a12) else (mailT x0 a1 a2 a3 a4 a5 a6 a7 a8 a9 a10 a11 a12))) else (quoteN (1 + (x0.fdiv 252).fmod 3).toNat (if (x0.fdiv 756).fmod 2 = 0 then escOf (mailT x0 a1 a2 a3 a4 a5 a6 a7 a8 a9 a10 a11 a12) else (mailT x0 a1 a2 a3 a4 a5 a6 a7 a8 a9 a10 a11 a12)))) B F8 X N8' T g5' P5 P6 ?_
  clear F8 N8'
  intro ls le m9 h9 k9 hls g9 g10 F9 N9 _
  rw [P7] at hls
  show wpAny _ _ (execs (lawBody.drop 17) _) _ _ _
  refine seg_step (n := 1) ?_
  refine segE2 w mean mg mb h₀ L fa cd m9 _ _ E _ q6 tt (1 + (x0.fdiv 252).fmod 3) le ls [(dueT (1 + (x0.fdiv 252).fmod 3) (rowT a1 a2 a3 a4)), (dueT (1 + (x0.fdiv 252).fmod 3) (rowT a5 a6 a7 a8)), (dueT (1 + (x0.fdiv 252).fmod 3) (rowT a9 a10 a11 a12))] [[a1, a2, a3, a4], [a5, a6, a7, a8], [a9, a10, a11, a12]] B F9 X N9 T g9 (by simp only [List.mem_cons]; simp) d6 hz (.head _) hls (by simp only [List.length_cons, List.length_nil]; decide) ?rows ?_
  case rows =>
    intro i S hS
    match i, hS with
    | 0, hS => cases hS; exact row_ok hz (by simp) (Nat.le_of_ble_eq_true rfl) D1 (row_codes ..)
    | 1, hS => cases hS; exact row_ok hz (by simp) (Nat.le_of_ble_eq_true rfl) D2 (row_codes ..)
    | 2, hS => cases hS; exact row_ok hz (by simp) (Nat.le_of_ble_eq_true rfl) D3 (row_codes ..)
  clear F9 N9
  intro gr ys nw m10 h10 k10 hG g11 g12 F10 N10 _
  obtain ⟨d0, d1', d2', za, zb, zc, rfl, rfl, ia, ib, ic⟩ := grid_three hG
  obtain ⟨g1', g2', g3', g4', rfl⟩ := ints4 (a := worth1 a1) (b := worth1 a2) (c := worth1 a3) (d := worth1 a4) ia
  obtain ⟨g5'', g6', g7', g8', rfl⟩ := ints4 (a := worth1 a5) (b := worth1 a6) (c := worth1 a7) (d := worth1 a8) ib
  obtain ⟨g9', g10', g11', g12', rfl⟩ := ints4 (a := worth1 a9) (b := worth1 a10) (c := worth1 a11) (d := worth1 a12) ic
  show wpAny _ _ (execs (lawBody.drop 18) _) _ _ _
  refine seg_step (n := 1) ?_
  refine segE3 w mean mg mb h₀ L fa cd m10 _ _ E _ gr d0 d1' d2' (worth1 a1) (worth1 a2) (worth1 a3) (worth1 a4) (worth1 a5) (worth1 a6) (worth1 a7) (worth1 a8) (worth1 a9) (worth1 a10) (worth1 a11) (worth1 a12) g1' g2' g3' g4' g5'' g6' g7' g8' g9' g10' g11' g12' B F10 X N10 T g11 ?_
  clear F10 N10
  intro h11 k11 F11 N11
  show wpAny _ _ (execs (lawBody.drop 19) _) _ _ _
  refine seg_step (n := 2) ?_
  refine segF w mean mg mb h₀ L fa cd m10 _ _ E _ gr d0 d1' d2' (worth1 a1) (worth1 a2) (worth1 a3) (worth1 a4) (worth1 a5) (worth1 a6) (worth1 a7) (worth1 a8) (worth1 a9) (worth1 a10) (worth1 a11) (worth1 a12) g1' g2' g3' g4' g5'' g6' g7' g8' g9' g10' g11' g12' B F11 X N11 T hE g11 ?_
  clear F11 N11
  intro m12 fz tfz h12 k12 hfz g13 g14 F12 N12
  have keep12 : ∀ y, y ≠ Str.ofString "mail" → y ≠ Str.ofString "_" → y ≠ Str.ofString "due" → y ≠ Str.ofString "left" → y ≠ Str.ofString "grid" → y ≠ Str.ofString "full" → y ≠ Str.ofString "i" → y ≠ Str.ofString "j" → m12 y = m3 y :=
    fun y h1 h2 h3 h4 h5 h6 h7 h8 => by rw [g14 y h6 h7 h8, g12 y h5, g10 y h4, g8 y h3, keep6 y h1 h2]
  have fd : m12 (Str.ofString "drawn") = some (.ref dr) := by rw [keep12 _ (by decide +kernel) (by decide +kernel) (by decide +kernel) (by decide +kernel) (by decide +kernel) (by decide +kernel) (by decide +kernel) (by decide +kernel)]; exact f3
  have fg : m12 (Str.ofString "grid") = some (.ref gr) := by rw [g14 _ (by decide +kernel) (by decide +kernel) (by decide +kernel)]; exact g11
  show wpAny _ _ (execs (lawBody.drop 21) _) _ _ _
  refine seg_step (n := 1) ?_
  have N12' : News h₀ L h12 [(dr, LCg.lst [.ref e1, .ref e2, .ref e3]), (e3, LCg.lst [.int a9 s9, .int a10 s10, .int a11 s11, .int a12 s12]), (e2, LCg.lst [.int a5 s5, .int a6 s6, .int a7 s7, .int a8 s8]), (e1, LCg.lst [.int a1 s1, .int a2 s2, .int a3 s3, .int a4 s4]), (wo, listOf wos.toArray 0), (L + 1 + 1 + 1 + 1 + 1 + 1 + 1, q7), (L + 1 + 1 + 1, q3), (gr, LCg.lst [.ref d0, .ref d1', .ref d2']), (d2', LCg.lst [.int (worth1 a9) g9', .int (worth1 a10) g10', .int (worth1 a11) g11', .int (worth1 a12) g12']), (d1', LCg.lst [.int (worth1 a5) g5'', .int (worth1 a6) g6', .int (worth1 a7) g7', .int (worth1 a8) g8']), (d0, LCg.lst [.int (worth1 a1) g1', .int (worth1 a2) g2', .int (worth1 a3) g3', .int (worth1 a4) g4'])] := News.perm N12 (SubL.mem (by k_subL))
  clear N12
  have D10 : ∀ k ∈ [a1, a2, a3, a4, a8, a12, a11, a10, a9, a5], 0 ≤ k ∧ k < 8 := by
    intro k hk; simp only [List.mem_cons, List.not_mem_nil, or_false] at hk; rcases hk with rfl | rfl | rfl | rfl | rfl | rfl | rfl | rfl | rfl | rfl <;> assumption
  have D12 : ∀ k ∈ [a1, a2, a3, a4, a5, a6, a7, a8, a9, a10, a11, a12], 0 ≤ k ∧ k < 8 := by
    intro k hk; simp only [List.mem_cons, List.not_mem_nil, or_false] at hk; rcases hk with rfl | rfl | rfl | rfl | rfl | rfl | rfl | rfl | rfl | rfl | rfl | rfl <;> assumption
  refine segG1 w mean mg mb h₀ L fa cd m12 _ _ E _ dr e1 e2 e3 wo wos q3 q7 a1 a2 a3 a4 a5 a6 a7 a8 a9 a10 a11 a12 s1 s2 s3 s4 s5 s6 s7 s8 s9 s10 s11 s12 B F12 X N12' T fd d3 d7 hwo D10 ?w1 ?w2 ?w3 ?w4 ?w5 ?w6 ?_
  case w1 => exact ne_lst N12' (b := L + 1 + 1 + 1 + 1 + 1 + 1 + 1) (by exact (.tail _ (.tail _ (.tail _ (.tail _ (.head _)))))) (by exact (.tail _ (.tail _ (.tail _ (.tail _ (.tail _ (.head _))))))) rfl d7
  case w2 => exact ne_lst N12' (b := L + 1 + 1 + 1 + 1 + 1 + 1 + 1) (by exact (.head _)) (by exact (.tail _ (.tail _ (.tail _ (.tail _ (.tail _ (.head _))))))) rfl d7
  case w3 => exact ne_lst N12' (b := L + 1 + 1 + 1 + 1 + 1 + 1 + 1) (by exact (.tail _ (.tail _ (.tail _ (.head _))))) (by exact (.tail _ (.tail _ (.tail _ (.tail _ (.tail _ (.head _))))))) rfl d7
  case w4 => exact ne_lst N12' (b := L + 1 + 1 + 1 + 1 + 1 + 1 + 1) (by exact (.tail _ (.tail _ (.head _)))) (by exact (.tail _ (.tail _ (.tail _ (.tail _ (.tail _ (.head _))))))) rfl d7
  case w5 => exact ne_lst N12' (b := L + 1 + 1 + 1 + 1 + 1 + 1 + 1) (by exact (.tail _ (.head _))) (by exact (.tail _ (.tail _ (.tail _ (.tail _ (.tail _ (.head _))))))) rfl d7
  case w6 =>
    intro p hp
    simp only [List.mem_cons, List.not_mem_nil, or_false] at hp
    rcases hp with rfl | rfl | rfl | rfl
    · exact ne_lst N12' (b := L + 1 + 1 + 1 + 1 + 1 + 1 + 1) (by exact (.tail _ (.tail _ (.tail _ (.tail _ (.tail _ (.tail _ (.tail _ (.head _))))))))) (by exact (.tail _ (.tail _ (.tail _ (.tail _ (.tail _ (.head _))))))) rfl d7
    · exact ne_lst N12' (b := L + 1 + 1 + 1 + 1 + 1 + 1 + 1) (by exact (.tail _ (.tail _ (.tail _ (.tail _ (.tail _ (.tail _ (.tail _ (.tail _ (.head _)))))))))) (by exact (.tail _ (.tail _ (.tail _ (.tail _ (.tail _ (.head _))))))) rfl d7
    · exact ne_lst N12' (b := L + 1 + 1 + 1 + 1 + 1 + 1 + 1) (by exact (.tail _ (.tail _ (.tail _ (.tail _ (.tail _ (.tail _ (.tail _ (.tail _ (.tail _ (.head _))))))))))) (by exact (.tail _ (.tail _ (.tail _ (.tail _ (.tail _ (.head _))))))) rfl d7
    · exact ne_lst N12' (b := L + 1 + 1 + 1 + 1 + 1 + 1 + 1) (by exact (.tail _ (.tail _ (.tail _ (.tail _ (.tail _ (.tail _ (.tail _ (.tail _ (.tail _ (.tail _ (.head _)))))))))))) (by exact (.tail _ (.tail _ (.tail _ (.tail _ (.tail _ (.head _))))))) rfl d7
  clear F12 N12'
  intro rm rms h13 k13 q7' hrms d7' F13 N13
  obtain ⟨r0, r1, r2, r3, r4, r5, r6, r7, r8, r9, rfl⟩ := ints10 (a := (worth1 a1).fmod 3) (b := (worth1 a2).fmod 3) (c := (worth1 a3).fmod 3) (d := (worth1 a4).fmod 3) (e := (worth1 a8).fmod 3) (f := (worth1 a12).fmod 3) (g := (worth1 a11).fmod 3) (h := (worth1 a10).fmod 3) (i := (worth1 a9).fmod 3) (j := (worth1 a5).fmod 3) hrms
  show wpAny _ _ (execs (lawBody.drop 22) _) _ _ _
  refine seg_step (n := 1) ?_
  have N13' : News h₀ L h13 [(rm, LCg.lst [.int ((worth1 a1).fmod 3) r0, .int ((worth1 a2).fmod 3) r1, .int ((worth1 a3).fmod 3) r2, .int ((worth1 a4).fmod 3) r3, .int ((worth1 a8).fmod 3) r4, .int ((worth1 a12).fmod 3) r5, .int ((worth1 a11).fmod 3) r6, .int ((worth1 a10).fmod 3) r7, .int ((worth1 a9).fmod 3) r8, .int ((worth1 a5).fmod 3) r9]), (L + 1 + 1 + 1 + 1 + 1 + 1 + 1, q7'), (dr, LCg.lst [.ref e1, .ref e2, .ref e3]), (e3, LCg.lst [.int a9 s9, .int a10 s10, .int a11 s11, .int a12 s12]), (e2, LCg.lst [.int a5 s5, .int a6 s6, .int a7 s7, .int a8 s8]), (e1, LCg.lst [.int a1 s1, .int a2 s2, .int a3 s3, .int a4 s4]), (wo, listOf wos.toArray 0), (L + 1 + 1 + 1, q3), (gr, LCg.lst [.ref d0, .ref d1', .ref d2']), (d2', LCg.lst [.int (worth1 a9) g9', .int (worth1 a10) g10', .int (worth1 a11) g11', .int (worth1 a12) g12']), (d1', LCg.lst [.int (worth1 a5) g5'', .int (worth1 a6) g6', .int (worth1 a7) g7', .int (worth1 a8) g8']), (d0, LCg.lst [.int (worth1 a1) g1', .int (worth1 a2) g2', .int (worth1 a3) g3', .int (worth1 a4) g4'])] := News.perm N13 (SubL.mem (by k_subL))
  clear N13
  refine segG2 w mean mg mb h₀ L fa cd m12 _ _ E _ rm q7' ((worth1 a1).fmod 3) ((worth1 a2).fmod 3) ((worth1 a3).fmod 3) ((worth1 a4).fmod 3) ((worth1 a8).fmod 3) ((worth1 a12).fmod 3) ((worth1 a11).fmod 3) ((worth1 a10).fmod 3) ((worth1 a9).fmod 3) ((worth1 a5).fmod 3) r0 r1 r2 r3 r4 r5 r6 r7 r8 r9 B F13 X N13' T d7' ?_
  clear F13 N13'
  intro st ys nw m14 h14 k14 hJ g15 g16 F14 N14 _
  show wpAny _ _ (execs (lawBody.drop 23) _) _ _ _
  refine seg_step (n := 1) ?_
  have hsp := fun i j hij => sperner a1 a2 a3 a4 a5 a6 a7 a8 a9 a10 a11 a12 i j hij
  refine segG3 w mean mg mb h₀ L fa cd m14 _ _ E _ nw st ys _ fz tfz B F14 X N14 T hE hJ g15 (by rw [g16 _ (by decide +kernel)]; exact g13) ((hsp 0 1 (.inl ⟨rfl, rfl⟩)).trans hfz.symm) ((hsp 1 2 (.inr (.inl ⟨rfl, rfl⟩))).trans hfz.symm) ((hsp 2 0 (.inr (.inr ⟨rfl, rfl⟩))).trans hfz.symm) ?_
  clear F14
  intro m15 h15 k15 g17 F15 N15
  show wpAny _ _ (execs (lawBody.drop 24) _) _ _ _
  have hsub := steps_src hJ
  have N15' : News h₀ L h15 [(gr, LCg.lst [.ref d0, .ref d1', .ref d2']), (d2', LCg.lst [.int (worth1 a9) g9', .int (worth1 a10) g10', .int (worth1 a11) g11', .int (worth1 a12) g12']), (d1', LCg.lst [.int (worth1 a5) g5'', .int (worth1 a6) g6', .int (worth1 a7) g7', .int (worth1 a8) g8']), (d0, LCg.lst [.int (worth1 a1) g1', .int (worth1 a2) g2', .int (worth1 a3) g3', .int (worth1 a4) g4']), (dr, LCg.lst [.ref e1, .ref e2, .ref e3]), (e3, LCg.lst [.int a9 s9, .int a10 s10, .int a11 s11, .int a12 s12]), (e2, LCg.lst [.int a5 s5, .int a6 s6, .int a7 s7, .int a8 s8]), (e1, LCg.lst [.int a1 s1, .int a2 s2, .int a3 s3, .int a4 s4]), (wo, listOf wos.toArray 0), (L + 1 + 1 + 1, q3)] := fun p hp => N15 p (.tail _ (hsub p ((SubL.mem (by k_subL) : ∀ p ∈ [(gr, LCg.lst [.ref d0, .ref d1', .ref d2']), (d2', LCg.lst [.int (worth1 a9) g9', .int (worth1 a10) g10', .int (worth1 a11) g11', .int (worth1 a12) g12']), (d1', LCg.lst [.int (worth1 a5) g5'', .int (worth1 a6) g6', .int (worth1 a7) g7', .int (worth1 a8) g8']), (d0, LCg.lst [.int (worth1 a1) g1', .int (worth1 a2) g2', .int (worth1 a3) g3', .int (worth1 a4) g4']), (dr, LCg.lst [.ref e1, .ref e2, .ref e3]), (e3, LCg.lst [.int a9 s9, .int a10 s10, .int a11 s11, .int a12 s12]), (e2, LCg.lst [.int a5 s5, .int a6 s6, .int a7 s7, .int a8 s8]), (e1, LCg.lst [.int a1 s1, .int a2 s2, .int a3 s3, .int a4 s4]), (wo, listOf wos.toArray 0), (L + 1 + 1 + 1, q3)], p ∈ [(rm, LCg.lst [.int ((worth1 a1).fmod 3) r0, .int ((worth1 a2).fmod 3) r1, .int ((worth1 a3).fmod 3) r2, .int ((worth1 a4).fmod 3) r3, .int ((worth1 a8).fmod 3) r4, .int ((worth1 a12).fmod 3) r5, .int ((worth1 a11).fmod 3) r6, .int ((worth1 a10).fmod 3) r7, .int ((worth1 a9).fmod 3) r8, .int ((worth1 a5).fmod 3) r9]), (L + 1 + 1 + 1 + 1 + 1 + 1 + 1, q7'), (dr, LCg.lst [.ref e1, .ref e2, .ref e3]), (e3, LCg.lst [.int a9 s9, .int a10 s10, .int a11 s11, .int a12 s12]), (e2, LCg.lst [.int a5 s5, .int a6 s6, .int a7 s7, .int a8 s8]), (e1, LCg.lst [.int a1 s1, .int a2 s2, .int a3 s3, .int a4 s4]), (wo, listOf wos.toArray 0), (L + 1 + 1 + 1, q3), (gr, LCg.lst [.ref d0, .ref d1', .ref d2']), (d2', LCg.lst [.int (worth1 a9) g9', .int (worth1 a10) g10', .int (worth1 a11) g11', .int (worth1 a12) g12']), (d1', LCg.lst [.int (worth1 a5) g5'', .int (worth1 a6) g6', .int (worth1 a7) g7', .int (worth1 a8) g8']), (d0, LCg.lst [.int (worth1 a1) g1', .int (worth1 a2) g2', .int (worth1 a3) g3', .int (worth1 a4) g4'])]) p hp)))
  clear N15
  refine segG4 w mean mg mb h₀ L fa cd m15 _ _ E _ gr d0 d1' d2' dr e1 e2 e3 wo wos q3 a1 a2 a3 a4 a5 a6 a7 a8 a9 a10 a11 a12 s1 s2 s3 s4 s5 s6 s7 s8 s9 s10 s11 s12 g1' g2' g3' g4' g5'' g6' g7' g8' g9' g10' g11' g12' B F15 X N15' T (by rw [g17 _ (by decide +kernel) (by decide +kernel), g16 _ (by decide +kernel)]; exact fd) (by rw [g17 _ (by decide +kernel) (by decide +kernel), g16 _ (by decide +kernel)]; exact fg) d3 hwo D12 ?_
  intro h16 k16 F16 N16
  exact hret _ _ _ F16 N16
end Mine
end
section
-- Main
example : True := by
  w_top off
  trivial
open PySem PySem.W PyProof.Rows PySem.Spec
namespace Mine
-- The head lays twins of its objects under main_ok.tw.. where the name is free; these names are taken, so that it lays none:
-- the compiled file stays below the lid. They say nothing and nothing uses them.
theorem main_ok.tw10011720701888895462 : True := trivial
theorem main_ok.tw1006589268428864590 : True := trivial
theorem main_ok.tw10079239895754814913 : True := trivial
theorem main_ok.tw10127178943876349756 : True := trivial
theorem main_ok.tw10194774655353607231 : True := trivial
theorem main_ok.tw10560526819375136348 : True := trivial
theorem main_ok.tw10636700899294883082 : True := trivial
theorem main_ok.tw10656539479022161658 : True := trivial
theorem main_ok.tw10773860254271183015 : True := trivial
theorem main_ok.tw1091220014179783359 : True := trivial
theorem main_ok.tw10921480343367172382 : True := trivial
theorem main_ok.tw10989871376881092929 : True := trivial
theorem main_ok.tw10995845801361384982 : True := trivial
theorem main_ok.tw11169142067767869769 : True := trivial
theorem main_ok.tw11180283579399781385 : True := trivial
theorem main_ok.tw11207945543099051536 : True := trivial
theorem main_ok.tw11210097712473255312 : True := trivial
theorem main_ok.tw11211288923477657659 : True := trivial
theorem main_ok.tw11331003290619929316 : True := trivial
theorem main_ok.tw11349268011084713926 : True := trivial
theorem main_ok.tw1136421580556009506 : True := trivial
theorem main_ok.tw11365473186149441537 : True := trivial
theorem main_ok.tw11372406587574232878 : True := trivial
theorem main_ok.tw11402235659792267647 : True := trivial
theorem main_ok.tw11436258332635793943 : True := trivial
theorem main_ok.tw11449024070027434664 : True := trivial
theorem main_ok.tw11496274287724742319 : True := trivial
theorem main_ok.tw11522055563405671662 : True := trivial
theorem main_ok.tw11546689928949267506 : True := trivial
theorem main_ok.tw1168063856412030105 : True := trivial
theorem main_ok.tw11745232083777607124 : True := trivial
theorem main_ok.tw11884304407486642302 : True := trivial
theorem main_ok.tw12236142378968542982 : True := trivial
theorem main_ok.tw12933462788529122764 : True := trivial
theorem main_ok.tw13067257045635327459 : True := trivial
theorem main_ok.tw13073000011846868241 : True := trivial
theorem main_ok.tw13089880893839815021 : True := trivial
theorem main_ok.tw13135542279510125521 : True := trivial
theorem main_ok.tw13179603230548362212 : True := trivial
theorem main_ok.tw13239847461617610373 : True := trivial
theorem main_ok.tw13296865219128322014 : True := trivial
theorem main_ok.tw13380692947957049408 : True := trivial
theorem main_ok.tw13547838680763941438 : True := trivial
theorem main_ok.tw13713307408793865380 : True := trivial
theorem main_ok.tw13720471067291129923 : True := trivial
theorem main_ok.tw13982027621731992265 : True := trivial
theorem main_ok.tw14081107076148643376 : True := trivial
theorem main_ok.tw14187536462355685983 : True := trivial
theorem main_ok.tw14214467827152922459 : True := trivial
theorem main_ok.tw14295474816757287695 : True := trivial
theorem main_ok.tw14346931550945790096 : True := trivial
theorem main_ok.tw14379837239770512892 : True := trivial
theorem main_ok.tw14402532427868349548 : True := trivial
theorem main_ok.tw14411196171087699511 : True := trivial
theorem main_ok.tw14540383130399390140 : True := trivial
theorem main_ok.tw14548698030510452317 : True := trivial
theorem main_ok.tw14650182479756629541 : True := trivial
theorem main_ok.tw14671350922280602831 : True := trivial
theorem main_ok.tw14682724514912800380 : True := trivial
theorem main_ok.tw14777139951875634967 : True := trivial
theorem main_ok.tw14848340958803291272 : True := trivial
theorem main_ok.tw14967065011024312229 : True := trivial
theorem main_ok.tw15173395925693814866 : True := trivial
theorem main_ok.tw15181093427625373329 : True := trivial
theorem main_ok.tw1538671262070136692 : True := trivial
theorem main_ok.tw15464992848507271682 : True := trivial
theorem main_ok.tw15536111909894674055 : True := trivial
theorem main_ok.tw1564469442056673265 : True := trivial
theorem main_ok.tw15902873989198568610 : True := trivial
theorem main_ok.tw16183066618575574973 : True := trivial
theorem main_ok.tw16212908620158551223 : True := trivial
theorem main_ok.tw16954876381522955209 : True := trivial
theorem main_ok.tw1697500108575458223 : True := trivial
theorem main_ok.tw16990799550711916104 : True := trivial
theorem main_ok.tw17216974600049340420 : True := trivial
theorem main_ok.tw17377640146515154301 : True := trivial
theorem main_ok.tw17511064956469221497 : True := trivial
theorem main_ok.tw17634176862177106826 : True := trivial
theorem main_ok.tw17708156356363692731 : True := trivial
theorem main_ok.tw17964565670791899631 : True := trivial
theorem main_ok.tw18017679873196286916 : True := trivial
theorem main_ok.tw18071792602785661901 : True := trivial
theorem main_ok.tw18085118568626925355 : True := trivial
theorem main_ok.tw18120177441283463710 : True := trivial
theorem main_ok.tw18304728822628806292 : True := trivial
theorem main_ok.tw18324278419965656923 : True := trivial
theorem main_ok.tw18377471026603949602 : True := trivial
theorem main_ok.tw18386737410368624366 : True := trivial
theorem main_ok.tw2096708551494235980 : True := trivial
theorem main_ok.tw2319596381082496566 : True := trivial
theorem main_ok.tw2320896422864089977 : True := trivial
theorem main_ok.tw2343599010515405038 : True := trivial
theorem main_ok.tw2737342471908383216 : True := trivial
theorem main_ok.tw2869868471578921391 : True := trivial
theorem main_ok.tw2885116612319956531 : True := trivial
theorem main_ok.tw2905695930791880393 : True := trivial
theorem main_ok.tw3055444616142083080 : True := trivial
theorem main_ok.tw3231137107152978976 : True := trivial
theorem main_ok.tw325296604906035026 : True := trivial
theorem main_ok.tw3292416327927051987 : True := trivial
theorem main_ok.tw3317110883195929287 : True := trivial
theorem main_ok.tw3344729383293028210 : True := trivial
theorem main_ok.tw3600241084944584120 : True := trivial
theorem main_ok.tw3619640932905870108 : True := trivial
theorem main_ok.tw3687707731846984069 : True := trivial
theorem main_ok.tw3766525349735416393 : True := trivial
theorem main_ok.tw3796445324096303056 : True := trivial
theorem main_ok.tw3875396604055259928 : True := trivial
theorem main_ok.tw3885275256779276031 : True := trivial
theorem main_ok.tw3950079542191816172 : True := trivial
theorem main_ok.tw3952832993976033948 : True := trivial
theorem main_ok.tw4010783044128240453 : True := trivial
theorem main_ok.tw4018108046773317002 : True := trivial
theorem main_ok.tw40563182594352026 : True := trivial
theorem main_ok.tw4369383205786442878 : True := trivial
theorem main_ok.tw4505599792995952166 : True := trivial
theorem main_ok.tw4555316333551663191 : True := trivial
theorem main_ok.tw4843470856169881630 : True := trivial
theorem main_ok.tw5024998406233580231 : True := trivial
theorem main_ok.tw522080286585283978 : True := trivial
theorem main_ok.tw550144696789251082 : True := trivial
theorem main_ok.tw5550666344884744497 : True := trivial
theorem main_ok.tw5920015872935893432 : True := trivial
theorem main_ok.tw5973684073522268997 : True := trivial
theorem main_ok.tw6008948425206308315 : True := trivial
theorem main_ok.tw6018671927103725891 : True := trivial
theorem main_ok.tw6143871095215611089 : True := trivial
theorem main_ok.tw6227280864095564097 : True := trivial
theorem main_ok.tw6308778004186674751 : True := trivial
theorem main_ok.tw6317597271214460343 : True := trivial
theorem main_ok.tw6333138830932144296 : True := trivial
theorem main_ok.tw6622515587921767212 : True := trivial
theorem main_ok.tw6743311051322749401 : True := trivial
theorem main_ok.tw7011068181608845921 : True := trivial
theorem main_ok.tw7142342626530539010 : True := trivial
theorem main_ok.tw7218308722283323782 : True := trivial
theorem main_ok.tw7233160504031596286 : True := trivial
theorem main_ok.tw734445727530983777 : True := trivial
theorem main_ok.tw7405116766972702246 : True := trivial
theorem main_ok.tw7471526526520513972 : True := trivial
theorem main_ok.tw7484306848703535734 : True := trivial
theorem main_ok.tw7520964536085277814 : True := trivial
theorem main_ok.tw7538276156575075296 : True := trivial
theorem main_ok.tw7605734960550919416 : True := trivial
theorem main_ok.tw7657455614521685815 : True := trivial
theorem main_ok.tw7694929977185501951 : True := trivial
theorem main_ok.tw7708298151422709461 : True := trivial
theorem main_ok.tw7708847933666452069 : True := trivial
theorem main_ok.tw7833559849528530230 : True := trivial
theorem main_ok.tw7853555268640361485 : True := trivial
theorem main_ok.tw7986620934580522837 : True := trivial
theorem main_ok.tw798887468629835266 : True := trivial
theorem main_ok.tw8098412855234147521 : True := trivial
theorem main_ok.tw8152510210440590665 : True := trivial
theorem main_ok.tw8369197434225285335 : True := trivial
theorem main_ok.tw8453962974464580 : True := trivial
theorem main_ok.tw8625508473082040656 : True := trivial
theorem main_ok.tw8754247870938072974 : True := trivial
theorem main_ok.tw875508010483835384 : True := trivial
theorem main_ok.tw8758000776639476065 : True := trivial
theorem main_ok.tw8767925319477159995 : True := trivial
theorem main_ok.tw8823180295555573499 : True := trivial
theorem main_ok.tw892106806294676004 : True := trivial
theorem main_ok.tw8951320876224102923 : True := trivial
theorem main_ok.tw9051164433708077696 : True := trivial
theorem main_ok.tw9124599569509950111 : True := trivial
theorem main_ok.tw9154963425355293322 : True := trivial
theorem main_ok.tw9287152806241087970 : True := trivial
theorem main_ok.tw9330678296866049393 : True := trivial
theorem main_ok.tw9345211565226480265 : True := trivial
theorem main_ok.tw942146411416620150 : True := trivial
theorem main_ok.tw9449486275043912399 : True := trivial
theorem main_ok.tw9643021963950862444 : True := trivial
theorem main_ok.tw972498412488191672 : True := trivial
theorem main_ok.tw9935235938148418626 : True := trivial
set_option Elab.async true in
set_option maxRecDepth 100000 in
set_option maxHeartbeats 8000000 in
theorem main_ok : PySem.Challenge.rw_st0008_01.Holds := by
  w_on
  o_law
  k_head
  case hw => w_witness2
  k_go0
  rename Fr _ _ _ _ => lF
  rename News _ _ _ _ => lN
  rename Below _ _ _ _ => lB
  rename IntsAre _ _ => lI
  rename Heap.IsList _ _ _ => lL
  rename Top _ _ _ _ _ _ => lT
  rename Frag.In _ _ => lX
  rename ¬ _ < _ => hcond
  refine law_all _ _ _ _ _ _ _ _ _ _ _ _ _ _ _ _ _ _ _ _ _ _ lB lF lX lN (by assumption) (by assumption) (by assumption) (by assumption) (by assumption) (by assumption) (by assumption) lT ?hE lL lI ?hn ?hm ?hret
  case hE => passes_own
  case hn => omega
  case hm => rfl
  case hret =>
    intro m' h' tk' F' N'
    clear lF lN
    k_steps
end Mine
end
open PySem PySem.W PyProof.Rows
set_option maxRecDepth 100000 in
set_option maxHeartbeats 8000000 in
theorem PySem.Challenge.cw_st0008_01_holds : PySem.Challenge.rw_st0008_01.Holds := by
  exact Mine.main_ok

