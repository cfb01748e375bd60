import PyProof.Rows.All
import Wide.All
import OpenK.AllK
import Wide.FinOn
import OpenK.ZGo
import PySem.Challenge.RW_il0109_01
open PySem PySem.W PyProof.Rows PySem.Calls PySem.Spec
set_option Elab.async false
set_option compiler.extract_closed false
set_option maxRecDepth 100000
set_option maxHeartbeats 8000000
set_option linter.all false
namespace Mine
section
set_option maxRecDepth 100000
set_option maxHeartbeats 8000000
local macro_rules | `(tactic| o_head $_) => `(tactic| assumption)
theorem hd (_h : Challenge.rw_il0109_01.row.Holds) : Challenge.rw_il0109_01.row.Holds := by km_head
theorem hx (_h : Challenge.rw_il0109_01.row.Holds) : Challenge.rw_il0109_01.row.Holds := by x_head
end
section
section
variable {prog : Program} {w : World} {A : Around} {E : Value → Shared → Prop} {s : Shared} {env : Env} {h₀ : Heap} {x : Str} {body : List Stmt} {Q : Flow → Shared → Prop}

/-- a for over a list of the ledger, its items as they are; the ledger keeps its addresses -/
theorem for_list {l : Addr} {vs : List Value} {nn : Nat} {m₀ : Str → Option Value} {news : List (Addr × Obj)} (J : Nat → (Str → Option Value) → List (Addr × Obj) → Prop)
    (hh : A.handled = none) (F : Fr h₀ env.locals s.heap m₀) (N : News h₀ env.locals s.heap news) (hl : (l, listOf vs.toArray nn) ∈ news)
    (hJ : ∀ i m nx, J i m nx → (l, listOf vs.toArray nn) ∈ nx ∧ nx.map (·.1) = news.map (·.1)) (hj : J 0 m₀ news)
    (turn : ∀ i v m₁ nx h tk I o, vs[i]? = some v → (∀ q ∈ nx, q.1 < I) → J i m₁ nx →
      Fr h₀ env.locals h (fun y => if y = x then some v else m₁ y) → News h₀ env.locals h ((I, o) :: nx) →
      wpAny (model prog w) A (execs body env) (InvPostN h₀ env.locals (J (i + 1)) [(I, o)] (news.map (·.1)) { s with heap := h, toks := tk } Q) E { s with heap := h, toks := tk })
    (done : ∀ m₁ nx h tk, J vs.length m₁ nx → Fr h₀ env.locals h m₁ → News h₀ env.locals h nx → Q .next { s with heap := h, toks := tk }) :
    wpAny (model prog w) A (pyIter (.ref l)) (fun it s₂ => LoopAtV prog w A h₀ env x body Q E it s₂) E s := by
  have hol : s.heap.get? l = some (listOf vs.toArray nn) := (N _ hl).1
  have hls : s.heap.IsList l vs.toArray := ⟨_, hol, rfl, nn, rfl⟩
  have hlt : l < s.heap.objs.size := Heap.lt_size hol
  have hlL : l ≠ env.locals := (N _ hl).2.1
  refine wpAny_pyIter_list hls ?_
  have W := Walks.list (prog := prog) (w := w) hh s.heap.objs.size l (Nat.ne_of_lt hlt) vs.toArray
  rw [List.size_toArray] at W
  have hL : env.locals < s.heap.objs.size := F.ns.lt
  have hI0 : h₀.get? s.heap.objs.size = none := next_is_new F
  have low : ∀ nx : List (Addr × Obj), nx.map (·.1) = news.map (·.1) → ∀ q ∈ nx, q.1 < s.heap.objs.size := by
    intro nx e q hq
    have h1 : q.1 ∈ nx.map (·.1) := List.mem_map.mpr ⟨q, hq, rfl⟩
    rw [e] at h1
    obtain ⟨q', h2, h3⟩ := List.mem_map.mp h1
    rw [← h3]; exact Heap.lt_size (N q' h2).1
  refine ⟨_, _, _, vs.length, _, _, m₀, news, J, rfl, W, ?_, ?_, ?_, ⟨⟨_, Heap.get?_push_size _ rfl, rfl, rfl⟩, hls.at fun o e => Heap.get?_push_of_some _ e⟩, F.push _, (fun p hp => ⟨Heap.get?_push_of_some _ (N p hp).1, (N p hp).2⟩), hj, ?_, ?_⟩
  · simp only [List.mem_cons, List.not_mem_nil, or_false, not_or]
    exact ⟨Nat.ne_of_lt hL, fun e => hlL e.symm⟩
  · intro b hb
    rw [List.mem_singleton.mp hb]
    exact hI0
  · intro p hp hI
    exact absurd (low news rfl p hp) ((List.mem_singleton.mp hI) ▸ Nat.lt_irrefl _)
  · rintro i v m₁ nx s₁ own ⟨h, tk, rfl⟩ hin hP hJi hoff hown hget hfp hSt F₁ N₁
    obtain ⟨hl₁, hadr⟩ := hJ _ _ _ hJi
    obtain ⟨⟨o, hoI, _⟩, _⟩ := hSt
    have hIo := hfp _ (.head _) hI0 o hoI
    have hv : vs[i]? = some v := by simpa using hP
    have N₂ : News h₀ env.locals h ((s.heap.objs.size, o) :: nx) := fun p hp => N₁ p <| (List.mem_cons.mp hp).elim
      (fun q => List.mem_append.mpr (.inl (q ▸ hIo))) fun q => List.mem_append.mpr (.inr q)
    refine wpAny_mono (turn i v m₁ nx h tk _ o hv (low nx hadr) hJi F₁ N₂) (fun f s₂ p => ?_) fun _ _ e => e
    have fin : InvEndN h₀ env.locals (J (i + 1)) [(s.heap.objs.size, o)] (news.map (·.1)) { s with heap := h, toks := tk } s₂ →
        LoopStepU h₀ env.locals [s.heap.objs.size] own (J (i + 1)) { s with heap := h, toks := tk } .next s₂ := by
      rintro ⟨h', tk', m', news', nx', e, F', N', hn, ho, ha, hm⟩
      obtain ⟨hl', hadr'⟩ := hJ _ _ _ hm
      refine ⟨rfl, h', tk', m', nx', e, F', fun p hp => ?_, fun p hp => ?_, hm⟩
      · rcases List.mem_append.mp hp with q | q
        · have hpo : s₂.heap.get? p.1 = some p.2 ∧ p.1 ≠ env.locals ∧ h₀.get? p.1 = none := by
            rw [e]
            rcases List.mem_cons.mp (hown p q) with e1 | e1
            · have h2 := hget p q
              dsimp only at h2
              have : p = (s.heap.objs.size, o) := by
                refine Prod.ext e1 ?_
                rw [e1] at h2
                exact Option.some.inj (h2.symm.trans hoI)
              rw [this]
              exact N' _ (ho _ (.head _))
            · have e2 := List.mem_singleton.mp e1
              have h2 := hget p q
              dsimp only at h2
              have : p = (l, listOf vs.toArray nn) := by
                refine Prod.ext e2 ?_
                rw [e2] at h2
                have h3 := (N₂ _ (List.mem_cons.mpr (.inr hl₁))).1
                exact Option.some.inj (h2.symm.trans h3)
              rw [this]
              exact N' _ (hn _ hl')
          rw [e] at hpo
          exact hpo
        · exact N' p (hn p q)
      · intro hw
        have := low nx' hadr' p hp
        rw [List.mem_singleton.mp hw] at this
        exact Nat.lt_irrefl _ this
    cases f with
    | ret v => exact .ret p
    | brk => exact .brk p
    | next => exact .next (fin p)
    | cont => exact .cont (fin p)
  · rintro h' tk m' nx F' N' _ hJn
    exact done m' nx h' tk hJn F' N'

theorem inv_end {L : Addr} {J : (Str → Option Value) → List (Addr × Obj) → Prop} {m' : Str → Option Value} {own news' : List (Addr × Obj)} {adr : List Addr} {s₁ : Shared} {h' : Heap} {tk : Nat} (F : Fr h₀ L h' m') (N : News h₀ L h' news')
    (h : ∃ nx, J m' nx ∧ (∀ p ∈ nx, p ∈ news') ∧ (∀ p ∈ own, p ∈ news') ∧ nx.map (·.1) = adr) : InvEndN h₀ L J own adr s₁ { s₁ with heap := h', toks := tk } := by
  obtain ⟨nx, hj, hn, ho, ha⟩ := h
  exact InvEndN.intro F N hj ha hn ho
theorem news_sub {L : Addr} {h : Heap} {l l' : List (Addr × Obj)} (N : News h₀ L h l) (hs : ∀ p ∈ l', p ∈ l) : News h₀ L h l' := fun p hp => N p (hs p hp)
theorem allLt_mem {d : Addr} : ∀ {l : List (Addr × Obj)}, AllLt d l → ∀ p ∈ l, p.1 < d
  | [], _, _, h => nomatch h
  | q :: r, ⟨h1, h2⟩, p, hp => by
    rcases List.mem_cons.mp hp with rfl | hp
    · exact h1
    · exact allLt_mem h2 p hp
theorem ne_of_all_lt {d : Addr} {l : List (Addr × Obj)} (h : ∀ p ∈ l, p.1 < d) : ∀ p ∈ l, p.1 ≠ d := fun p hp => Nat.ne_of_lt (h p hp)
theorem ne_of_all_le {d b : Nat} {l : List (Addr × Obj)} (h : ∀ p ∈ l, p.1 < b) (e : b ≤ d) : ∀ p ∈ l, p.1 ≠ d := fun p hp => Nat.ne_of_lt (Nat.lt_of_lt_of_le (h p hp) e)

theorem while_end {L : Addr} {s₀ : Shared} {J : Nat → (Str → Option Value) → List (Addr × Obj) → Prop} {Q' : Flow → Shared → Prop} {n : Nat} {m' : Str → Option Value} {news' : List (Addr × Obj)} {h' : Heap} {tk : Nat} (F : Fr h₀ L h' m') (N : News h₀ L h' news')
    (h : ∃ nx n', J n' m' nx ∧ (∀ p ∈ nx, p ∈ news') ∧ n' < n) : WhileStep2 h₀ L s₀ J Q' n .next { s₀ with heap := h', toks := tk } := by
  obtain ⟨nx, n', hj, hn, hl⟩ := h
  exact ⟨h', tk, m', nx, n', rfl, F, fun p hp => N p (hn p hp), hl, hj⟩
end
end
section
theorem ne_of_all_le' {d b : Nat} {l : List (Addr × Obj)} (h : ∀ p ∈ l, p.1 < b) (e : b ≤ d) : ∀ p ∈ l, p.1 ≠ d := fun p hp => Nat.ne_of_lt (Nat.lt_of_lt_of_le (h p hp) e)
theorem nat_lt {a b : Nat} (h : a < b) : a < b := h
theorem updF_lt {a x : Nat} {o : Obj} {l : List (Addr × Obj)} {g : Obj → List (Addr × Obj)} (u : UpdF a o l g) (h : ∀ p ∈ l, p.1 < x) (o' : Obj) : ∀ p ∈ g o', p.1 < x := by
  obtain ⟨pre, post, e1, e2, _, _⟩ := u.split
  intro p hp
  rw [e2] at hp
  rw [e1] at h
  rcases List.mem_append.mp hp with hp | hp
  · exact h p (List.mem_append_left _ hp)
  · rcases List.mem_cons.mp hp with rfl | hp
    · exact h (a, o) (List.mem_append_right _ (.head _))
    · exact h p (List.mem_append_right _ (.tail _ hp))
end
section
section
variable {prog : Program} {w : World} {A : Around} {E : Value → Shared → Prop} {s : Shared} {h₀ : Heap} {L : Addr} {m : Str → Option Value} {env : Env}
open LCg
/-- the turns of a comprehension without a test, by an invariant -/
theorem rest_inv {elt : Expr} {x : Str} {scope : Scope} {cl : List (Str × Addr)} {S : List (Addr × Obj) → Prop} {P : Nat → Value → Prop} {Fin : List Value → List (Addr × Obj) → Prop} {n : Nat} {news : List (Addr × Obj)}
    (J : Nat → List Value → List (Addr × Obj) → Prop) (hj : J 0 [] news)
    (turn : ∀ i v ys nx I oI C oC D m₂ h tk (E' : Value → Shared → Prop), i < n → P i v → J i ys nx → NsObj oC m₂ → m₂ x = some v → Fr h₀ L h m → News h₀ L h ((I, oI) :: (C, oC) :: (D, lst ys) :: nx) → Off3 I C D nx → ((@Ne Nat I C) ∧ (@Ne Nat I D) ∧ (@Ne Nat C D)) →
      wpAny (model prog w) A (eval elt (compEnvC scope cl C env)) (CompEnd h₀ L m { s with heap := h, toks := tk } I oI C oC D (lst ys) S (fun y nx' => J (i + 1) (ys ++ [y]) nx')) E' { s with heap := h, toks := tk })
    (fin : ∀ ys nx, J n ys nx → Fin ys nx) : CompRest prog w A h₀ L m env elt x scope cl s S P Fin n 0 [] news := by
  have key : ∀ (j i : Nat) (ys : List Value) (nx : List (Addr × Obj)), i + j = n → J i ys nx → CompRest prog w A h₀ L m env elt x scope cl s S P Fin j i ys nx := by
    intro j
    induction j with
    | zero =>
      intro i ys nx hi hJ
      obtain rfl : i = n := by omega
      exact CompRest.zero (fin _ _ hJ)
    | succ j ih =>
      intro i ys nx hi hJ
      refine CompRest.succ ?_
      intro v I oI C oC D m₂ h tk E' hv hC hx F N off ne
      refine wpAny_mono (turn i v ys nx I oI C oC D m₂ h tk E' (by omega) hv hJ hC hx F N off ne) (fun y s₂ hq => ?_) fun _ _ e => e
      obtain ⟨h', tk', nw, e, F', N', off', hS, hJ'⟩ := hq
      exact ⟨h', tk', nw, e, F', N', off', hS, ih (i + 1) _ _ (by omega) hJ'⟩
  exact key n 0 [] news (by omega) hj
/-- and with one test -/
theorem restT_inv {ct elt : Expr} {x : Str} {scope : Scope} {cl : List (Str × Addr)} {S : List (Addr × Obj) → Prop} {P : Nat → Value → Prop} {Fin : List Value → List (Addr × Obj) → Prop} {n : Nat} {news : List (Addr × Obj)}
    (J : Nat → List Value → List (Addr × Obj) → Prop) (hj : J 0 [] news)
    (turn : ∀ i v ys nx I oI C oC D m₂ h tk (E' : Value → Shared → Prop), i < n → P i v → J i ys nx → NsObj oC m₂ → m₂ x = some v → Fr h₀ L h m → News h₀ L h ((I, oI) :: (C, oC) :: (D, lst ys) :: nx) → Off3 I C D nx → ((@Ne Nat I C) ∧ (@Ne Nat I D) ∧ (@Ne Nat C D)) →
      wpAny (model prog w) A (isTrue ct (compEnvC scope cl C env) (eval ct (compEnvC scope cl C env))) (fun ok s' => if ok = true then
        wpAny (model prog w) A (eval elt (compEnvC scope cl C env)) (CompEnd h₀ L m { s with heap := h, toks := tk } I oI C oC D (lst ys) S (fun y nx' => J (i + 1) (ys ++ [y]) nx')) E' s'
        else CompEnd h₀ L m { s with heap := h, toks := tk } I oI C oC D (lst ys) S (fun _ nx' => J (i + 1) ys nx') Value.none s') E' { s with heap := h, toks := tk })
    (fin : ∀ ys nx, J n ys nx → Fin ys nx) : LCt.CompRestT prog w A h₀ L m env ct elt x scope cl s S P Fin n 0 [] news := by
  have key : ∀ (j i : Nat) (ys : List Value) (nx : List (Addr × Obj)), i + j = n → J i ys nx → LCt.CompRestT prog w A h₀ L m env ct elt x scope cl s S P Fin j i ys nx := by
    intro j
    induction j with
    | zero =>
      intro i ys nx hi hJ
      obtain rfl : i = n := by omega
      exact LCt.CompRestT.zero (fin _ _ hJ)
    | succ j ih =>
      intro i ys nx hi hJ
      refine LCt.CompRestT.succ ?_
      intro v I oI C oC D m₂ h tk E' hv hC hx F N off ne
      refine wpAny_mono (turn i v ys nx I oI C oC D m₂ h tk E' (by omega) hv hJ hC hx F N off ne) (fun b s₂ hq => ?_) fun _ _ e => e
      cases b with
      | true =>
        simp only [if_true] at hq ⊢
        refine wpAny_mono hq (fun y s₃ hr => ?_) fun _ _ e => e
        obtain ⟨h', tk', nw, e, F', N', off', hS, hJ'⟩ := hr
        exact ⟨h', tk', nw, e, F', N', off', hS, ih (i + 1) _ _ (by omega) hJ'⟩
      | false =>
        simp only [Bool.false_eq_true, if_false] at hq ⊢
        obtain ⟨h', tk', nw, e, F', N', off', hS, hJ'⟩ := hq
        exact ⟨h', tk', nw, e, F', N', off', hS, ih (i + 1) _ _ (by omega) hJ'⟩
  exact key n 0 [] news (by omega) hj

/-- its source: a text -/
noncomputable def SrcS (prog : Program) (w : World) (A : Around) (h₀ : Heap) (L : Addr) (m : Str → Option Value) (env : Env) (elt : Expr) (x : Str) (scope : Scope) (cl : List (Str × Addr)) (Fin : Shared → List Value → List (Addr × Obj) → Prop) (xv : Value) (s₁ : Shared) : Prop :=
  ∃ y t news, xv = .str y t ∧ A.handled = none ∧ Fr h₀ L s₁.heap m ∧ News h₀ L s₁.heap news ∧ y.cps.size ≤ sizeLine ∧
      ∀ s₂ : Shared, (∃ h, s₂ = { s₁ with heap := h }) → CompRest prog w A h₀ L m env elt x scope cl s₂ (fun _ => True) (SignAt y) (Fin s₂) y.cps.size 0 [] news
theorem SrcS.intro {elt : Expr} {x : Str} {scope : Scope} {cl : List (Str × Addr)} {Fin : Shared → List Value → List (Addr × Obj) → Prop} {s₁ : Shared} {y : Str} {t : Tok} {news : List (Addr × Obj)}
    (hh : A.handled = none) (F : Fr h₀ L s₁.heap m) (N : News h₀ L s₁.heap news) (hsz : y.cps.size ≤ sizeLine)
    (R : ∀ g, CompRest prog w A h₀ L m env elt x scope cl { s₁ with heap := g } (fun _ => True) (SignAt y) (Fin { s₁ with heap := g }) y.cps.size 0 [] news) :
    SrcS prog w A h₀ L m env elt x scope cl Fin (.str y t) s₁ := ⟨y, t, news, rfl, hh, F, N, hsz, fun _ ⟨g, e⟩ => e ▸ R g⟩
/-- a comprehension over the signs of a text -/
theorem comp_str {elt iter : Expr} {x : Str} {px : Pos} {scope : Scope} {cl : List (Str × Addr)} {pos : Pos} {Q : Value → Shared → Prop} (_F : Fr h₀ L s.heap m)
    (hclos : closureFor scope env = pure cl) (hcell : ∀ y ∈ scope.names, y.2 ≠ .cell) (hkind : scope.kind = .function)
    (hnames : ∀ y ∈ scope.names, y.2 = .local → scope.names.lookup y.1 = some .local) (hx : scope.names.lookup x = some .local)
    (h : wpAny (model prog w) A (eval iter env) (SrcS prog w A h₀ L m env elt x scope cl (fun s₂ => FinE h₀ L m s₂ Q)) E s)
    (hs : ∀ x, foldedSetIterable iter env x = pure x := by intro _; rfl) :
    wpAny (model prog w) A (eval (.ListComp elt [⟨.Name x px, iter, [], 0⟩] scope pos) env) Q E s := by
  rw [eval_ListComp]
  refine wpAny_comprehension_free (use := none) rfl hs hclos hkind hnames (wpAny_mono h (fun xv s₁ h₁ => ?_) fun _ _ e => e)
  obtain ⟨y, t, news, rfl, hh, F, N, hsz, R⟩ := h₁
  have key : ∀ (o : Obj) (c : String), Walks prog w A s₁.heap.objs.size [s₁.heap.objs.size] [s₁.heap.objs.size] y.cps.size (SignAt y) (fun i h => h.IsStrIter s₁.heap.objs.size c y t i) →
      (s₁.heap.push o).IsStrIter s₁.heap.objs.size c y t 0 →
      wpAny (model prog w) A (newList []) (fun acc s₃ => wpAny (model prog w) A (newFunctionEnv scope env.globals cl [] env.qual none .none (some env)) (fun cenv s₄ =>
        codeAny (model prog w) A (.compStart (.ListComp elt [⟨.Name x px, iter, [], 0⟩] scope pos) 0 (.ref s₁.heap.objs.size) acc { cenv with scope := relabel scope env }) (compPost (model prog w) A E none Q acc cenv.locals) s₄) E s₃) E
        { s₁ with heap := s₁.heap.push o } := by
    intro o c W hst
    refine block_U W hsz (fun i h st => by obtain ⟨o', e, _⟩ := st; exact ⟨o', e⟩) (S := fun _ => True) (fun i h h' o' nw st e e' _ _ _ => ?_) hcell hkind hx hst (fun b hb => ?_)
      (F.keeps fun _ _ e => Heap.get?_push_of_some _ e) (N.grown fun _ _ e => Heap.get?_push_of_some _ e) (Nat.ne_of_lt F.ns.lt) (next_is_new F) (fun p hp => Nat.ne_of_lt (Heap.lt_size (N p hp).1)) trivial (R _ ⟨_, rfl⟩) ?_
    · exact W.frame i h h' st fun b hb ob eb => by
        rw [List.mem_singleton.mp hb] at eb ⊢
        rw [e'] ; rw [e] at eb; exact eb
    · rw [List.mem_singleton.mp hb]
      show s₁.heap.objs.size < (s₁.heap.push _).objs.size
      rw [Heap.size_push]; exact Nat.lt_succ_self _
    · intro D C h tk m' ys news' F' N' o1 hn hC₀ hD₀ hCL hDL hCD offC fin
      refine ⟨m', hn, fun h'' hs'' => fin D h'' tk (F'.change hs'' hCL hC₀) (fun p hp => ?_) o1⟩
      refine ⟨hs''.extBut _ _ ?_ (N' p hp).1, (N' p hp).2⟩
      rcases List.mem_cons.mp hp with rfl | hp
      · exact Ne.symm hCD
      · exact offC p hp
  cases ha : y.cps.all (· < 128)
  · exact wpAny_pyIter_wide ha (key _ _ (Walks.strWide hh _ y t) ⟨_, Heap.get?_push_size _ rfl, rfl, rfl⟩)
  · exact wpAny_pyIter_ascii ha (key _ _ (Walks.strAscii hh _ y t) ⟨_, Heap.get?_push_size _ rfl, rfl, rfl⟩)
end
end
section
section
variable {prog : Program} {w : World} {A : Around} {E : Value → Shared → Prop} {s : Shared} {h₀ : Heap} {L : Addr} {m : Str → Option Value} {news news' : List (Addr × Obj)}
theorem mapSeq_list (xs ys : List Value) (n : Nat) : Obj.mapSeq (fun x => x ++ ys.toArray) (listOf xs.toArray n) = listOf (xs ++ ys).toArray (if ((xs ++ ys).toArray.size == xs.toArray.size) = true then n else n + 1) := by
  unfold Obj.mapSeq W.listOf
  simp only [List.append_toArray]
/-- list += list, both of the ledger -/
theorem iadd_list {l b : Addr} {xs ys : List Value} {n n2 : Nat} {Q : Value → Shared → Prop} (F : Fr h₀ L s.heap m) (N : News h₀ L s.heap news) (hb : (b, listOf ys.toArray n2) ∈ news)
    (U : Upd l (listOf xs.toArray n) (listOf (xs ++ ys).toArray (if ((xs ++ ys).toArray.size == xs.toArray.size) = true then n else n + 1)) news news')
    (h : ∀ h', Fr h₀ L h' m → News h₀ L h' news' → Q (.ref l) { s with heap := h' }) (hs1 : xs.length ≤ 10000) (hs2 : ys.length ≤ 10000) :
    wpAny (model prog w) A (inplaceOp .Add (.ref l) (.ref b)) Q E s := by
  obtain ⟨pre, post, rfl, rfl, ha, hpo⟩ := U.split
  have hl := (N (l, listOf xs.toArray n) (List.mem_append.mpr (.inr (.head _))))
  have hbg := (N _ hb).1
  have hT : s.TypeIs (.ref l) "list" := ⟨_, hl.1, rfl⟩
  have hTb : s.TypeIs (.ref b) "list" := ⟨_, hbg, rfl⟩
  unfold inplaceOp
  refine wpAny_holding ?_
  have hlk := PySem.F.slot_list_iadd.lookup
  have hfi : fillsInplaceSlot (.type "list") "add" (Operator.Add == .Add) = pure false := by
    unfold fillsInplaceSlot
    show (typeLookup (.type "list") (dunderI "add") >>= fun fi => pure (fi.isSome && !isSeqSlot fi)) = pure false
    rw [hlk]; rfl
  have hsi : seqSlot? (.type "list") (dunderI "add") = pure (some (.builtin "list.__iadd__")) := by
    unfold seqSlot?
    rw [hlk]; rfl
  refine wpAny_bind (wpAny_typeOf hT (wpAny_bind (wpAny_of_eq hfi ?_)))
  show wpAny _ A (if false = true then _ else _) Q E s
  rw [if_neg Bool.false_ne_true]
  refine wpAny_bind (wpAny_binaryOp1_none (nm := "add") hT hTb noFill_list_add ?_)
  refine wpAny_bind (wpAny_of_eq hsi ?_)
  refine wpAny_bind (wpAny_rule ?_)
  have hsz : sizeLine = 16777216 := sizeLine_eq
  have hup := news_upd F N ha hpo (mapSeq_list xs ys n) rfl
  refine call_meets PySem.F.slot_list_iadd hT PySem.F.entry_list_iadd (PySem.F.args_list_iadd_2 _ _) (AutoSeq1.list___iadd___list_list_0 l xs.toArray n b ys.toArray n2 ?_ (by rw [List.size_toArray]; omega) (by rw [List.size_toArray, List.size_toArray]; omega)) ⟨hl.1, hbg, ?_⟩
  · unfold Builtin.List.listTooLong; simp only [gt_iff_lt, Bool.and_eq_true, decide_eq_true_eq, not_and, List.size_toArray]; intro _; omega
  · exact h _ hup.1 hup.2
/-- list + list, both of the ledger: their sum ahead of it -/
theorem add_lists' {l b : Addr} {xs ys : List Value} {n n2 : Nat} {Q : Value → Shared → Prop} (F : Fr h₀ L s.heap m) (N : News h₀ L s.heap news) (hl : (l, listOf xs.toArray n) ∈ news) (hb : (b, listOf ys.toArray n2) ∈ news)
    (h : ∀ D h', Fr h₀ L h' m → News h₀ L h' ((D, listOf (xs ++ ys).toArray 0) :: news) → (∀ p ∈ news, p.1 < D) → Q (.ref D) { s with heap := h' }) (hs1 : xs.length ≤ 10000) (hs2 : ys.length ≤ 10000) :
    wpAny (model prog w) A (binaryOp .Add (.ref l) (.ref b)) Q E s := by
  have hsz : sizeLine = 16777216 := sizeLine_eq
  exact add_lists (hsz := by omega) F N (N.isList hl) (N.isList hb) fun h' F' N' => h _ h' F' N' fun p hp => Heap.lt_size (N p hp).1

theorem min_sub (a b n : Nat) : min (min b n - min a n) (n - a) = min (b - a) (n - a) := by
  by_cases h : a ≤ n
  · rw [Nat.min_eq_left h, Nat.min_eq_left (Nat.sub_le_sub_right (Nat.min_le_right b n) a), Nat.sub_min_sub_right]
  · rw [Nat.sub_eq_zero_of_le (Nat.le_of_not_le h), Nat.min_zero, Nat.min_zero]
theorem pick_run' (vs : List Value) {x y : Int} (h : 0 ≤ x) (h2 : 0 ≤ y) : slicePick vs.toArray (some x) (some y) none = ((vs.drop x.toNat).take (y.toNat - x.toNat)).toArray := by
  rw [kms_pick_eq]
  unfold kms_pick kms_lo kms_hi
  dsimp only
  rw [if_neg (Int.not_lt.mpr h), if_neg (Int.not_lt.mpr h2), kmk_drop_min]
  refine congrArg List.toArray (List.take_eq_take_iff.mpr ?_)
  rw [List.length_drop]
  exact min_sub _ _ _
theorem pick_upto' (vs : List Value) {y : Int} (h2 : 0 ≤ y) : slicePick vs.toArray none (some y) none = (vs.take y.toNat).toArray := by
  rw [kms_pick_eq]
  unfold kms_pick kms_lo kms_hi
  dsimp only
  rw [if_neg (Int.not_lt.mpr h2), List.drop_zero, Nat.sub_zero, kmk_take_min]
theorem pick_from' (vs : List Value) {x : Int} (h : 0 ≤ x) : slicePick vs.toArray (some x) none none = (vs.drop x.toNat).toArray := by
  rw [kms_pick_eq]
  unfold kms_pick kms_lo kms_hi
  dsimp only
  rw [if_neg (Int.not_lt.mpr h), kmk_drop_min, List.take_of_length_le]
  rw [List.length_drop]
  exact Nat.sub_le_sub_left (Nat.min_le_left _ _) _
/-- a slice of a list of the ledger, its items named -/
theorem slice_at {l : Addr} {vs zs : List Value} {n : Nat} {vl vu : Value} {lo hi : Option Int} {value slice : Expr} {Q : Value → Shared → Prop} (F : Fr h₀ L s.heap m) (N : News h₀ L s.heap news) (hl : (l, listOf vs.toArray n) ∈ news) (pl : IsPart vl lo) (pu : IsPart vu hi)
    (e : slicePick vs.toArray lo hi none = zs.toArray)
    (h : ∀ D h', Fr h₀ L h' m → News h₀ L h' ((D, listOf zs.toArray 0) :: news) → (∀ p ∈ news, p.1 < D) → Q (.ref D) { s with heap := h' })
    (hs : subscripted slice false (.ref l) (.ref s.heap.objs.size) = operate [.ref s.heap.objs.size, .ref l] (getItem (.ref l) (.ref s.heap.objs.size))) (ht : ∀ r, letTemporaryGo value (.ref l) r = pure ()) (hz : vs.length ≤ 10000) :
    wpAny (model prog w) A (subscriptTail value slice (.ref l) (.ref s.heap.objs.size)) Q E { s with heap := s.heap.push { cls := .type "slice", data := .fields #[vl, vu, .none] } } := by
  have hsz : sizeLine = 16777216 := sizeLine_eq
  refine kmk_slice F N (N.isList hl) pl pu (fun D h' F' N' l1 => h D h' F' ?_ l1) hs ht (by rw [List.size_toArray]; omega)
  rw [← e]
  exact N'

/-- list.append, on a list of the ledger -/
theorem append_list {l : Addr} {xs : List Value} {n : Nat} {v : Value} {Q : Value → Shared → Prop} (F : Fr h₀ L s.heap m) (N : News h₀ L s.heap news)
    (U : Upd l (listOf xs.toArray n) (listOf (xs ++ [v]).toArray (n + 1)) news news')
    (h : ∀ h', Fr h₀ L h' m → News h₀ L h' news' → Q .none { s with heap := h' }) (hs1 : xs.length ≤ 10000) :
    wpAny (model prog w) A (call (.builtin "list.append") [.ref l, v]) Q E s := by
  have hsz : sizeLine = 16777216 := sizeLine_eq
  rw [← List.push_toArray] at U
  exact append_K F N U h (by rw [List.size_toArray]; omega)
end
end
section
/- a run of the semantics' own tree, step by step, over a ledger -/
/-- the ledger of a run: own are the run's new objects, base the caller's -/
structure Xl (h₀ : Heap) (L : Addr) (h : Heap) (m : Str → Option Value) (base own : List (Addr × Obj)) : Prop where
  fr : Fr h₀ L h m
  nw : News h₀ L h (own ++ base)
  ord : (own.map (·.1)).Pairwise (· > ·)
  low : ∀ p ∈ own, ∀ q ∈ base, q.1 < p.1
  far : ∀ p ∈ own, L < p.1
  big : 121 ≤ h₀.objs.size
/-- a place of the own ledger -/
inductive At (a : Addr) (o : Obj) : List (Addr × Obj) → (Obj → List (Addr × Obj)) → Prop
  | head {r} : At a o ((a, o) :: r) (fun o' => (a, o') :: r)
  | tail {p r g} : At a o r g → At a o (p :: r) (fun o' => p :: g o')
  | right {l r g} : At a o r g → At a o (l ++ r) (fun o' => l ++ g o')
theorem At.split {a : Addr} {o : Obj} : ∀ {l : List (Addr × Obj)} {g : Obj → List (Addr × Obj)}, At a o l g → ∃ pre post, l = pre ++ (a, o) :: post ∧ ∀ o', g o' = pre ++ (a, o') :: post
  | _, _, .head => ⟨[], _, rfl, fun _ => rfl⟩
  | _, _, .tail (p := p) h => by
    obtain ⟨pre, post, rfl, e⟩ := h.split
    exact ⟨p :: pre, post, rfl, fun o' => congrArg (List.cons p) (e o')⟩
  | _, _, .right (l := l) h => by
    obtain ⟨pre, post, rfl, e⟩ := h.split
    refine ⟨l ++ pre, post, by rw [List.append_assoc], fun o' => ?_⟩
    dsimp only
    rw [e, List.append_assoc]
theorem At.mem {a : Addr} {o : Obj} {l : List (Addr × Obj)} {g : Obj → List (Addr × Obj)} (h : At a o l g) : (a, o) ∈ l := by
  obtain ⟨pre, post, rfl, _⟩ := h.split
  exact List.mem_append_right _ (.head _)
section
variable {h₀ h h' : Heap} {L a b : Addr} {o : Obj} {m : Str → Option Value} {base own : List (Addr × Obj)} {g : Obj → List (Addr × Obj)}
theorem Xl.get (X : Xl h₀ L h m base own) (i : At a o own g) : h.get? a = some o := (X.nw _ (List.mem_append_left _ i.mem)).1
theorem Xl.getB (X : Xl h₀ L h m base own) (i : (a, o) ∈ base) : h.get? a = some o := (X.nw _ (List.mem_append_right _ i)).1
theorem Xl.old (X : Xl h₀ L h m base own) (e : h₀.get? a = some o) : h.get? a = some o := X.fr.keep _ _ e
theorem Xl.start (F : Fr h₀ L h m) (N : News h₀ L h base) (hb : 121 ≤ h₀.objs.size) : Xl h₀ L h m base [] := ⟨F, N, .nil, fun _ hp => (nomatch hp), fun _ hp => (nomatch hp), hb⟩
theorem Xl.alloc (X : Xl h₀ L h m base own) (o : Obj) (hf : o.isFreed = false) : Xl h₀ L (h.push o) m base ((h.objs.size, o) :: own) :=
  ⟨X.fr.push _, X.nw.push X.fr o hf, List.Pairwise.cons (fun b hb => by
    obtain ⟨⟨b', ob⟩, hp, rfl⟩ := List.mem_map.mp hb
    exact Heap.lt_size (X.nw _ (List.mem_append_left _ hp)).1) X.ord, fun p hp q hq => by
    rcases List.mem_cons.mp hp with rfl | hp
    · exact Heap.lt_size (X.nw _ (List.mem_append_right _ hq)).1
    · exact X.low p hp q hq, fun p hp => by
    rcases List.mem_cons.mp hp with rfl | hp
    · exact X.fr.ns.lt
    · exact X.far p hp, X.big⟩
theorem Xl.upd (X : Xl h₀ L h m base own) {f : Obj → Obj} (i : At a o own g) (hf : (f o).isFreed = false) : Xl h₀ L (h.update a f) m base (g (f o)) := by
  have n0 := X.nw (a, o) (List.mem_append_left _ i.mem)
  obtain ⟨pre, post, rfl, e⟩ := i.split
  have hs : Heap.SameBut a h (h.update a f) := Heap.SameBut.update ..
  have ge : (h.update a f).get? a = some (f o) := by first | exact Heap.get?_update_self f n0.1 hf | exact Heap.get?_update_self _ n0.1 hf
  have ord' := X.ord
  rw [List.map_append, List.map_cons] at ord'
  have p1 : ∀ p ∈ pre, p.1 ≠ a := fun p hp => Nat.ne_of_gt ((List.pairwise_append.mp ord').2.2 p.1 (List.mem_map_of_mem hp) a (.head _))
  have p2 : ∀ p ∈ post, p.1 ≠ a := fun p hp => Nat.ne_of_lt ((List.pairwise_cons.mp (List.pairwise_append.mp ord').2.1).1 p.1 (List.mem_map_of_mem hp))
  have p3 : ∀ p ∈ base, p.1 ≠ a := fun p hp => Nat.ne_of_lt (X.low (a, o) i.mem p hp)
  rw [e]
  refine ⟨X.fr.change hs n0.2.1 n0.2.2, fun p hp => ?_, ?_, fun p hp q hq => ?_, fun p hp => ?_, X.big⟩
  · rcases List.mem_append.mp hp with hp | hp
    · rcases List.mem_append.mp hp with hp | hp
      · have y := X.nw p (List.mem_append_left _ (List.mem_append_left _ hp))
        exact ⟨(hs.2 _ (p1 p hp)).trans y.1, y.2⟩
      · rcases List.mem_cons.mp hp with rfl | hp
        · exact ⟨ge, n0.2⟩
        · have y := X.nw p (List.mem_append_left _ (List.mem_append_right _ (.tail _ hp)))
          exact ⟨(hs.2 _ (p2 p hp)).trans y.1, y.2⟩
    · have y := X.nw p (List.mem_append_right _ hp)
      exact ⟨(hs.2 _ (p3 p hp)).trans y.1, y.2⟩
  · rw [List.map_append, List.map_cons]; exact ord'
  · rcases List.mem_append.mp hp with hp | hp
    · exact X.low p (List.mem_append_left _ hp) q hq
    · rcases List.mem_cons.mp hp with rfl | hp
      · exact X.low (a, o) i.mem q hq
      · exact X.low p (List.mem_append_right _ (.tail _ hp)) q hq
  · rcases List.mem_append.mp hp with hp | hp
    · exact X.far p (List.mem_append_left _ hp)
    · rcases List.mem_cons.mp hp with rfl | hp
      · exact X.far (a, o) i.mem
      · exact X.far p (List.mem_append_right _ (.tail _ hp))
theorem Xl.updB (X : Xl h₀ L h m base own) {f : Obj → Obj} (i : UpdF a o base g) (hf : (f o).isFreed = false) : Xl h₀ L (h.update a f) m (g (f o)) own := by
  obtain ⟨pre, post, rfl, e, p1, p2⟩ := i.split
  have n0 := X.nw (a, o) (List.mem_append_right _ (List.mem_append_right _ (.head _)))
  have hs : Heap.SameBut a h (h.update a f) := Heap.SameBut.update ..
  have ge : (h.update a f).get? a = some (f o) := by first | exact Heap.get?_update_self f n0.1 hf | exact Heap.get?_update_self _ n0.1 hf
  have p3 : ∀ p ∈ own, p.1 ≠ a := fun p hp => Nat.ne_of_gt (X.low p hp (a, o) (List.mem_append_right _ (.head _)))
  rw [e]
  refine ⟨X.fr.change hs n0.2.1 n0.2.2, fun p hp => ?_, X.ord, fun p hp q hq => ?_, X.far, X.big⟩
  · rcases List.mem_append.mp hp with hp | hp
    · have y := X.nw p (List.mem_append_left _ hp)
      exact ⟨(hs.2 _ (p3 p hp)).trans y.1, y.2⟩
    · rcases List.mem_append.mp hp with hp | hp
      · have y := X.nw p (List.mem_append_right _ (List.mem_append_left _ hp))
        exact ⟨(hs.2 _ (p1 p hp)).trans y.1, y.2⟩
      · rcases List.mem_cons.mp hp with rfl | hp
        · exact ⟨ge, n0.2⟩
        · have y := X.nw p (List.mem_append_right _ (List.mem_append_right _ (.tail _ hp)))
          exact ⟨(hs.2 _ (p2 p hp)).trans y.1, y.2⟩
  · rcases List.mem_append.mp hq with hq | hq
    · exact X.low p hp q (List.mem_append_left _ hq)
    · rcases List.mem_cons.mp hq with rfl | hq
      · exact X.low p hp (a, o) (List.mem_append_right _ (.head _))
      · exact X.low p hp q (List.mem_append_right _ (.tail _ hq))
theorem updF_again {a : Addr} {o o' : Obj} : ∀ {l : List (Addr × Obj)} {g : Obj → List (Addr × Obj)}, UpdF a o l g → UpdF a o' (g o') g
  | _, _, .head h => .head h
  | _, _, .tail h r => .tail h (updF_again r)
theorem updF_in {a : Addr} {o : Obj} {l : List (Addr × Obj)} {g : Obj → List (Addr × Obj)} (h : UpdF a o l g) : (a, o) ∈ l := by
  obtain ⟨pre, post, e, _⟩ := h.split
  rw [e]
  exact List.mem_append_right _ (.head _)
end

/-- two places of the own ledger, the later first -/
inductive Two (a b : Addr) : List (Addr × Obj) → Prop
  | head {o o' r g} : At b o' r g → Two a b ((a, o) :: r)
  | tail {p r} : Two a b r → Two a b (p :: r)
theorem Two.split {a b : Addr} : ∀ {l : List (Addr × Obj)}, Two a b l → ∃ pre post o o', l = pre ++ (a, o) :: post ∧ (b, o') ∈ post
  | _, .head h => ⟨[], _, _, _, rfl, h.mem⟩
  | p :: _, .tail h => by
    obtain ⟨pre, post, o, o', rfl, m⟩ := h.split
    exact ⟨p :: pre, post, o, o', rfl, m⟩
section
variable {h₀ h h' : Heap} {L a b : Addr} {o o' : Obj} {m : Str → Option Value} {base own : List (Addr × Obj)} {g : Obj → List (Addr × Obj)}
theorem Xl.neN (X : Xl h₀ L h m base own) (t : Two a b own) : a ≠ b := by
  obtain ⟨pre, post, o, o', rfl, hm⟩ := t.split
  have ord := X.ord
  rw [List.map_append, List.map_cons] at ord
  exact Nat.ne_of_gt ((List.pairwise_cons.mp (List.pairwise_append.mp ord).2.1).1 b (List.mem_map_of_mem (f := Prod.fst) hm))
theorem Xl.neN' (X : Xl h₀ L h m base own) (t : Two a b own) : b ≠ a := (X.neN t).symm
theorem Xl.neB (X : Xl h₀ L h m base own) (i : At a o own g) (j : (b, o') ∈ base) : a ≠ b := Nat.ne_of_gt (X.low _ i.mem _ j)
theorem Xl.neB' (X : Xl h₀ L h m base own) (i : At a o own g) (j : (b, o') ∈ base) : b ≠ a := (X.neB i j).symm
end
theorem same_off {a b : Addr} (h : a ≠ b) : Builtin.List.listSameRef (.ref a) (.ref b) = false := by
  show decide (a = b) = false
  exact decide_eq_false h
theorem same_on (a : Addr) : Builtin.List.listSameRef (.ref a) (.ref a) = true := by
  show decide (a = a) = true
  exact decide_eq_true rfl
/-- a run's state: the code c under A, the tree t, what comes of it -/
structure G (prog : Program) (w : World) (A : Around) (c : Code) (t : Sem PySem.Fin) (R : Result → Shared → Prop) (s : Shared) : Prop where
  of ::
  out : wpOwn (model prog w) A c t (W.X.postC prog w A R) (W.X.postE R) s
noncomputable def kR (prog : Program) (w : World) (A : Around) (c : Code) (k : Result → Sem PySem.Fin) (R : Result → Shared → Prop) : Result → Shared → Prop := fun r s => G prog w A c (k r) R s
section
open W.X
variable {prog : Program} {w : World} {A : Around} {c : Code} {R : Result → Shared → Prop} {s : Shared} {h₀ h : Heap} {L : Addr} {m : Str → Option Value} {base own : List (Addr × Obj)} {gs : Array GenState} {d : Drawn} {tk : Nat} {os : OsState}
theorem g_code (x : G prog w A c (XFast.xw11892475500146522536 XFast.tableX c) R s) : codeAny (model prog w) A c R s :=
  y_code prog w A R s c (by rw [show table = XFast.tableX from XFast.tableX_eq, show @denote = XFast.xw11892475500146522536 from XFast.xe11892475500146522536]; exact x.out)
theorem g_codeZ (x : G prog w A c (ZFast.zw11892475500146522536 ZFast.tableZ c) R s) : codeAny (model prog w) A c R s :=
  y_code prog w A R s c (by rw [show table = ZFast.tableZ from ZFast.tableZ_eq, show @denote = ZFast.zw11892475500146522536 from ZFast.ze11892475500146522536]; exact x.out)
theorem g_done {f : Flow} (x : R (.ok f) s) : G prog w A c (.pure (.done f)) R s := ⟨y_pure _ _ _ _ _ _ _ _ _ x⟩
theorem g_again {c' : Code} (hq : c'.quiet = true) (x : codeAny (model prog w) A c' R s) : G prog w A c (.pure (.again c')) R s := ⟨y_pure _ _ _ _ _ _ _ _ _ ⟨hq, x⟩⟩
theorem g_ret {A' : Around} {c' : Code} {k : Result → Sem PySem.Fin} {r : Result} (x : G prog w A' c' (k r) R s) : kR prog w A' c' k R r s := x
theorem g_rule {t : String} {k : Unit → Sem PySem.Fin} (x : G prog w A c (k ()) R s) : G prog w A c (.rule t k) R s := ⟨fun Γ p hc hΓ => x.out Γ p hc hΓ⟩
theorem g_at {q : Pos} {k : Unit → Sem PySem.Fin} (x : G prog w A c (k ()) R s) : G prog w A c (.at q k) R s := ⟨fun Γ _ hc hΓ => x.out Γ q hc hΓ⟩
theorem g_point {l : List Value} {k : Unit → Sem PySem.Fin} (x : G prog w A c (k ()) R s) : G prog w A c (.point l k) R s := ⟨fun Γ p hc hΓ => x.out Γ p hc hΓ⟩
theorem g_ask {k : Setting → Sem PySem.Fin} (x : G prog w A c (k ⟨prog, w.params⟩) R s) : G prog w A c (.ask k) R s := ⟨fun Γ p hc hΓ => x.out Γ p hc hΓ⟩
theorem g_fresh {k : Tok → Sem PySem.Fin} (x : ∀ t, G prog w A c (k tk) R ⟨h, gs, d, t, os⟩) : G prog w A c (.fresh k) R ⟨h, gs, d, tk, os⟩ := ⟨y_fresh _ _ _ _ _ _ _ _ _ _ _ _ _ (x _).out⟩
theorem g_stack {k : List (Code × Pos) → Sem PySem.Fin} (x : ∀ (p : Pos) (below : List (Code × Pos)), Lies (A.under c) ((c, p) :: below) → G prog w A c (k ((c, p) :: below)) R s) : G prog w A c (.stack k) R s := ⟨y_stack _ _ _ _ _ _ _ _ _ fun p b l => (x p b l).out⟩
theorem g_load {a : Addr} {q : Option Value} {k : Obj → Sem PySem.Fin} {o : Obj} (ho : h.get? a = some o) (x : G prog w A c (k o) R ⟨h, gs, d, tk, os⟩) : G prog w A c (.load a q k) R ⟨h, gs, d, tk, os⟩ := ⟨y_load _ _ _ _ _ _ _ _ _ _ _ _ _ _ _ _ ho x.out⟩
theorem g_alloc {o o' : Obj} {k : Addr → Sem PySem.Fin} (X : Xl h₀ L h m base own) (e : o = o') (hf : o'.isFreed = false) (x : ∀ a h', Xl h₀ L h' m base ((a + 121, o') :: own) → G prog w A c (k (a + 121)) R ⟨h', gs, d, tk, os⟩) : G prog w A c (.alloc o k) R ⟨h, gs, d, tk, os⟩ := by
  subst e
  have hle : 121 ≤ h.objs.size := Nat.le_trans X.big (Nat.le_trans X.fr.above (Nat.le_of_lt X.fr.ns.lt))
  have e2 : h.objs.size - 121 + 121 = h.objs.size := Nat.sub_add_cancel hle
  have x' := x (h.objs.size - 121)
  rw [e2] at x'
  exact ⟨wpOwn_bind (m := alloc o) (f := k) (wpOwn_of_wpAny (wpAny_alloc (x' _ (X.alloc _ hf)).out))⟩
theorem g_upd {a : Addr} {q : Option Value} {f : Obj → Obj} {k : Unit → Sem PySem.Fin} {o o' : Obj} {g : Obj → List (Addr × Obj)} (X : Xl h₀ L h m base own) (i : At a o own g) (e : f o = o') (hf : o'.isFreed = false) (x : ∀ h', Xl h₀ L h' m base (g o') → G prog w A c (k ()) R ⟨h', gs, d, tk, os⟩) :
    G prog w A c (.update a q f k) R ⟨h, gs, d, tk, os⟩ := by
  subst e
  exact ⟨wpOwn_bind (m := updatePart a q f) (f := k) (wpOwn_of_wpAny (wpAny_updatePart (X.get i) (x _ (X.upd i hf)).out))⟩
theorem g_updB {a : Addr} {q : Option Value} {f : Obj → Obj} {k : Unit → Sem PySem.Fin} {o o' : Obj} {g : Obj → List (Addr × Obj)} (X : Xl h₀ L h m base own) (i : UpdF a o base g) (e : f o = o') (hf : o'.isFreed = false) (x : ∀ h', Xl h₀ L h' m (g o') own → UpdF a o' (g o') g → G prog w A c (k ()) R ⟨h', gs, d, tk, os⟩) :
    G prog w A c (.update a q f k) R ⟨h, gs, d, tk, os⟩ := by
  have hm : (a, o) ∈ base := by
    obtain ⟨pre, post, rfl, _⟩ := i.split
    exact List.mem_append_right _ (.head _)
  subst e
  exact ⟨wpOwn_bind (m := updatePart a q f) (f := k) (wpOwn_of_wpAny (wpAny_updatePart (X.getB hm) (x _ (X.updB i hf) (updF_again i)).out))⟩
theorem g_call {c' : Code} {hd : Option Value} {gn : Bool} {l : List Value} {k : Result → Sem PySem.Fin} (hnb : hd ≠ some byPass) (x : codeAny (model prog w) ((A.under c).mark hd) c' (kR prog w A c k R) s) : G prog w A c (.call c' hd gn l k) R s :=
  ⟨y_call _ _ _ _ _ _ _ _ _ _ _ _ _ hnb (codeAny_mono x fun _ _ q => q.out)⟩
end
structure Is {α : Type} (a b : α) : Prop where
  eq : a = b
theorem Is.same {α : Type} (a : α) : Is a a := ⟨rfl⟩
theorem Is.back (x : Nat) : Is (Nat.succ (Nat.add x 120)) (x + 121) := ⟨rfl⟩
theorem obj_is {o : Obj} {c : Value} {d : Option Addr} {dt : Data} {sl : Array (Option Value)} (h1 : Is o.cls c) (h2 : Is o.dict d) (h3 : Is o.data dt) (h4 : Is o.slots sl) : o = ⟨c, d, dt, sl⟩ := by
  cases h1; cases h2; cases h3; cases h4; subst_vars; rfl
theorem seq_is {a a' : Array Value} {n n' : Nat} (h : Is a a') (hn : Is n n') : Is (Data.seq a n) (Data.seq a' n') := ⟨by rw [h.eq, hn.eq]⟩
theorem dict_is {a a' : Array DictEntry} {n n' : Nat} (h : Is a a') (hn : Is n n') : Is (Data.dict a n) (Data.dict a' n') := ⟨by rw [h.eq, hn.eq]⟩
theorem fields_is {a a' : Array Value} (h : Is a a') : Is (Data.fields a) (Data.fields a') := ⟨by rw [h.eq]⟩
theorem cell_is {a a' : Option Value} (h : Is a a') : Is (Data.cell a) (Data.cell a') := ⟨by rw [h.eq]⟩
theorem clsd_is {a a' : ClassData} (h : Is a a') : Is (Data.cls a) (Data.cls a') := ⟨by rw [h.eq]⟩
theorem arr_is {α : Type} {a : Array α} {l : List α} (h : Is a.toList l) : Is a ⟨l⟩ := ⟨by rw [← h.eq]⟩
theorem cons_is {α : Type} {x x' : α} {l l' : List α} (h : Is x x') (h2 : Is l l') : Is (x :: l) (x' :: l') := ⟨by rw [h.eq, h2.eq]⟩
theorem some_is {α : Type} {x x' : α} (h : Is x x') : Is (some x) (some x') := ⟨by rw [h.eq]⟩
theorem ref_is {a a' : Addr} (h : Is a a') : Is (Value.ref a) (Value.ref a') := ⟨by rw [h.eq]⟩
theorem cdata_is {c : ClassData} {x1 x2 x3 x4 x5 x6 x7 x8 x9 x10 x11} (h1 : Is c.name x1) (h2 : Is c.bases x2) (h3 : Is c.mro x3) (h4 : Is c.ns x4) (h5 : Is c.qualname x5) (h6 : Is c.hasDict x6) (h7 : Is c.slotNames x7) (h8 : Is c.subclasses x8) (h9 : Is c.abstract x9) (h10 : Is c.collection x10) (h11 : Is c.hasDel x11) :
    Is c ⟨x1, x2, x3, x4, x5, x6, x7, x8, x9, x10, x11⟩ := ⟨by rw [← h1.eq, ← h2.eq, ← h3.eq, ← h4.eq, ← h5.eq, ← h6.eq, ← h7.eq, ← h8.eq, ← h9.eq, ← h10.eq, ← h11.eq]⟩
theorem type_is {a a' : String} (h : Is a a') : Is (Value.type a) (Value.type a') := ⟨by rw [h.eq]⟩
theorem blt_is {a a' : String} (h : Is a a') : Is (Value.builtin a) (Value.builtin a') := ⟨by rw [h.eq]⟩
section
open W.X
variable {A : Around} {st : List (Code × Pos)}
noncomputable def offLim (f : List (Code × Pos) → Nat → Nat → Bool) (st : List (Code × Pos)) (own limit : Nat) : Bool := match Nat.beq limit recursionLimit with
  | true => false
  | false => f st own limit
theorem offLim_eq {f g : List (Code × Pos) → Nat → Nat → Bool} (e : f = g) (h : ∀ own, g st own recursionLimit = false) : f st = offLim g st := by
  subst e
  funext own limit
  unfold offLim
  cases q : Nat.beq limit recursionLimit with
  | false => rfl
  | true => rw [Nat.eq_of_beq_eq_true q]; exact h own
theorem near_eq (l : Lies A st) (hd : Nat.blt A.depth recursionLimit = true) : nearF st = offLim oNear.1 st := offLim_eq rfl fun own => l.near' (Nat.le_of_ble_eq_true hd) own
theorem over_eq (l : Lies A st) (hd : Nat.blt A.depth recursionLimit = true) : overF st = offLim oOver.1 st := offLim_eq rfl fun own => l.over (Nat.le_of_ble_eq_true hd) own
theorem warm_eq (l : Lies A st) (hd : Nat.blt A.depth recursionLimit = true) : warmF st = offLim oWarm.1 st := offLim_eq rfl fun own => l.warm (Nat.le_of_ble_eq_true hd) own
end
theorem lit_is (l : List Nat) : Is (⟨⟨l⟩⟩ : Str) ⟨⟨l⟩⟩ := ⟨rfl⟩
theorem strv_is' {a a' : Str} {t : Tok} (h : Is a a') : Is (Value.str a t) (Value.str a' t) := ⟨by rw [h.eq]⟩
theorem entry_is' {h : Int} {k k' v v' : Value} (e2 : Is k k') (e3 : Is v v') : Is (DictEntry.mk h k v) (DictEntry.mk h k' v') := ⟨by rw [e2.eq, e3.eq]⟩
theorem text_is {a : Str} {l : Array Nat} (h : Is a.cps l) : Is a ⟨l⟩ := ⟨by rw [← h.eq]⟩
theorem pair_is {α β : Type} {a a' : α} {b b' : β} (h : Is a a') (h2 : Is b b') : Is (a, b) (a', b') := ⟨by rw [h.eq, h2.eq]⟩
theorem args_is {a : Args} {p : List Value} {k : List (Str × Value)} (h : Is a.pos p) (h2 : Is a.kw k) : Is a ⟨p, k⟩ := ⟨by rw [← h.eq, ← h2.eq]⟩
theorem env_is {c : Env} {x1 x2 x3 x4 x5 x6 x7 x8 x9} (h1 : Is c.scope x1) (h2 : Is c.locals x2) (h3 : Is c.globals x3) (h4 : Is c.cells x4) (h5 : Is c.qual x5) (h6 : Is c.func x6) (h7 : Is c.code x7) (h8 : Is c.frame x8) (h9 : Is c.builtins x9) : Is c ⟨x1, x2, x3, x4, x5, x6, x7, x8, x9⟩ :=
  ⟨by rw [← h1.eq, ← h2.eq, ← h3.eq, ← h4.eq, ← h5.eq, ← h6.eq, ← h7.eq, ← h8.eq, ← h9.eq]⟩
theorem cblt_is {n n' : String} {a a' : Args} (h : Is n n') (h2 : Is a a') : Is (Code.builtin n a) (Code.builtin n' a') := ⟨by rw [h.eq, h2.eq]⟩
theorem ccall_is {n n' : Value} {a a' : Args} (h : Is n n') (h2 : Is a a') : Is (Code.call n a) (Code.call n' a') := ⟨by rw [h.eq, h2.eq]⟩
theorem cfunc_is {b : List Stmt} {a a' : Env} (h2 : Is a a') : Is (Code.func b a) (Code.func b a') := ⟨by rw [h2.eq]⟩
theorem cbody_is {b : List Stmt} {a a' : Env} (h2 : Is a a') : Is (Code.body b a) (Code.body b a') := ⟨by rw [h2.eq]⟩
theorem ret_is {a a' : Value} (h2 : Is a a') : Is (Flow.ret a) (Flow.ret a') := ⟨by rw [h2.eq]⟩
section
variable {prog : Program} {w : World} {A : Around} {c : Code} {R : Result → Shared → Prop} {s : Shared}
theorem g_call' {c' c'' : Code} {hd : Option Value} {gn : Bool} {l : List Value} {k : Result → Sem PySem.Fin} (e : Is c' c'') (hnb : hd ≠ some byPass) (x : codeAny (model prog w) ((A.under c).mark hd) c'' (kR prog w A c k R) s) : G prog w A c (.call c' hd gn l k) R s := by
  cases e with | mk e => subst e; exact g_call hnb x
theorem g_again' {c' c'' : Code} (e : Is c' c'') (hq : c''.quiet = true) (x : codeAny (model prog w) A c'' R s) : G prog w A c (.pure (.again c')) R s := by
  cases e with | mk e => subst e; exact g_again hq x
theorem g_done' {f f' : Flow} (e : Is f f') (x : R (.ok f') s) : G prog w A c (.pure (.done f)) R s := by
  cases e with | mk e => subst e; exact g_done x
theorem madeBy_type : XFast.xw6838149247815620303 (Value.type "type") = Sem.pure (some "type.__new__") := by kernel_rfl
end
theorem chk_typenew (n : Str) (t : Tok) (b ns : Addr) : XFast.xw10254737850608025244 "type.__new__" ⟨[.type "type", .str n t, .ref b, .ref ns], []⟩ = Sem.pure () := by kernel_rfl
theorem filt_obj (a : Addr) : List.filter (fun x => @bne Value (@instBEqOfDecidableEq Value XFast.xw7966671052430208091) x (.ref a)) (.ref a :: [.type "object"]) = [.type "object"] := by
  rw [← XFast.xe7966671052430208091]
  have h2 : (Value.type "object" != Value.ref a) = true := bne_iff_ne.mpr fun e => by cases e
  simp [List.filter_cons, h2]
theorem cont_head (a : Addr) (l : List Value) : @List.contains Value (@instBEqOfDecidableEq Value XFast.xw7966671052430208091) (.ref a :: l) (.ref a) = true := by
  rw [← XFast.xe7966671052430208091]
  simp
theorem bindp {α β : Type} (a : α) (f : α → Sem β) : Sem.bind (.pure a) f = f a := rfl
theorem bindp' {α β : Type} (a : α) (f : α → Sem β) : Sem.bind (pure a) f = f a := rfl
theorem drop_head (a : Addr) (l : List Value) : List.drop 1 (List.dropWhile (fun x => @bne Value (@instBEqOfDecidableEq Value ZFast.zw7966671052430208091) x (.ref a)) (.ref a :: l)) = l := by
  rw [← ZFast.ze7966671052430208091]
  simp [List.dropWhile_cons]
theorem zeq (a : Addr) : @BEq.beq Value (@instBEqOfDecidableEq Value ZFast.zw7966671052430208091) (.ref a) (.ref a) = true := by
  rw [← ZFast.ze7966671052430208091]
  simp
theorem succ_back (x : Nat) : Nat.succ (Nat.add x 120) = x + 121 := rfl
theorem bool_is {a a' : Bool} (h : Is a a') : Is (Value.bool a) (Value.bool a') := ⟨by rw [h.eq]⟩
theorem Xl.join {h₀ h : Heap} {L : Addr} {m : Str → Option Value} {base own own' : List (Addr × Obj)} (X : Xl h₀ L h m (own ++ base) own') (ho : (own.map (·.1)).Pairwise (· > ·)) (hl : ∀ p ∈ own, ∀ q ∈ base, q.1 < p.1) (hf : ∀ p ∈ own, L < p.1) : Xl h₀ L h m base (own' ++ own) := by
  refine ⟨X.fr, ?_, ?_, fun p hp q hq => ?_, fun p hp => ?_, X.big⟩
  · rw [List.append_assoc]; exact X.nw
  · rw [List.map_append]
    refine List.pairwise_append.mpr ⟨X.ord, ho, fun a ha b hb => ?_⟩
    obtain ⟨p, hp, rfl⟩ := List.mem_map.mp ha
    obtain ⟨q, hq, rfl⟩ := List.mem_map.mp hb
    exact X.low p hp q (List.mem_append_left _ hq)
  · rcases List.mem_append.mp hp with hp | hp
    · exact X.low p hp q (List.mem_append_right _ hq)
    · exact hl p hp q hq
  · rcases List.mem_append.mp hp with hp | hp
    · exact X.far p hp
    · exact hf p hp

theorem code_weak {M : Model} {A A' : Around} {c : Code} {R : Result → Shared → Prop} {s : Shared} (h1 : A'.handled = A.handled) (h2 : Nat.ble A'.depth A.depth = true) (h3 : Nat.ble A'.units A.units = true) (h4 : A.frames = none) (h5 : A.guards = none) (x : codeAny M A c R s) : codeAny M A' c R s := by
  intro Γ p hc hΓ
  refine x Γ p hc ⟨hΓ.1.trans h1, Nat.le_trans hΓ.2.1 (Nat.le_of_ble_eq_true h2), fun l hl => ?_, fun g hg => ?_, Nat.le_trans hΓ.2.2.2.2 (Nat.le_of_ble_eq_true h3)⟩
  · rw [h4] at hl; cases hl
  · rw [h5] at hg; cases hg
end
local macro_rules | `(tactic| walk_at "g") => `(tactic| ((fail_if_success (with_reducible (first | show wpAny _ _ (exec (Stmt.For _ _ _ _ _) _) _ _ _ | show wpAny _ _ (exec (Stmt.While _ _ _ _) _) _ _ _ | show wpAny _ _ (pyIter _) _ _ _ | show wpAny _ _ (eval (Expr.ListComp _ _ _ _) _) _ _ _ | show wpAny _ _ (exec (Stmt.Assign _ (Expr.ListComp _ _ _ _) _) _) _ _ _ | show InvEndN _ _ _ _ _ _ _))); walk_at "go1"))
local macro_rules | `(tactic| walk_at "go") => `(tactic| repeat' walk_at "g")
local macro_rules | `(tactic| walk_at "go1") => `(tactic| (first | (k_unfold; (try dsimp only)) | (k_end; wrow_close) | walk1 | (dsimp only; walk1) | (leave1; walk_say "STEP leave1"; try dsimp only)))
local macro_rules | `(tactic| walk_at "o") => `(tactic| first | (grind -lia -linarith -ring (splits := 0) (ematch := 0)) | lia | omega)
local macro_rules | `(tactic| walk_at "mem") => `(tactic| first | assumption | exact List.Mem.head _ | (refine List.Mem.tail _ ?_; walk_at "mem") | (simp only [List.cons_append, List.mem_cons, List.mem_append, true_or, or_true]; done))
local macro_rules | `(tactic| walk_at "len") => `(tactic| first | walk_at "o" | (simp only [List.length_append, List.length_cons, List.length_nil, List.length_map, List.length_take, List.length_drop, List.size_toArray]; walk_at "o"))
local macro_rules | `(tactic| walk_at "sign") => `(tactic| first | decide | walk_at "o" | (simp only [List.length_append, List.length_cons, List.length_nil, List.length_map, List.length_take, List.length_drop, List.size_toArray] at *; walk_at "o"))
local macro_rules | `(tactic| walk_at "tail") => `(tactic| first | assumption | (refine List.Mem.tail _ ?_; walk_at "tail"))
local macro_rules | `(tactic| walk_at "sub") => `(tactic| first | exact List.forall_mem_nil _ | (refine List.forall_mem_cons.mpr ⟨?_, ?_⟩; walk_at "mem"; walk_at "sub") | (intro p hp; walk_at "tail"))
local macro_rules | `(tactic| k_all) => `(tactic| first | assumption | exact Mine.ne_of_all_lt (by assumption) | exact Mine.ne_of_all_le' (by assumption) (by walk_at "o") | exact Mine.ne_of_all_le' (Mine.updF_lt (by assumption) (by assumption) _) (by walk_at "o") | exact tbn_neAll (by assumption) | (exact tbn_neAll (And.right (by assumption))) | (exact tbn_neAll (And.right (And.right (by assumption)))))
local macro_rules | `(tactic| walk_at "pick") => `(tactic| first | exact Mine.pick_run' _ (by walk_at "sign") (by walk_at "sign") | exact Mine.pick_upto' _ (by walk_at "sign") | exact Mine.pick_from' _ (by walk_at "sign"))
local macro_rules | `(tactic| k_units) => `(tactic| first | exact Nat.le_of_ble_eq_true rfl | ktr_units)
local macro_rules | `(tactic| k_room) => `(tactic| first | exact Nat.lt_of_lt_of_le (Nat.lt_of_succ_le (Nat.le_of_ble_eq_true rfl)) (Nat.le_refl _) | ktr_room)
local macro_rules | `(tactic| k_updF) => `(tactic| first | assumption | exact Mine.updF_again (by assumption) | (refine' UpdF.head ?a; (case a => k_all)) | (refine' UpdF.tail ?a ?b; (case a => k_ne); (case b => k_updF)))

section
/-- the octets of one text -/
noncomputable def octs (x : Str) : List Int := (x.length : Int) :: x.cps.toList.map (fun (c : Nat) => (c : Int))
noncomputable def tapeAll (ts : List Str) : List Int := (ts.map octs).flatten
theorem mset {m₁ : Str → Option Value} {a : Str} {va : Option Value} (h : m₁ a = va) : m₁ = fun y => if y = a then va else m₁ y := by
  funext y; by_cases e : y = a
  · simp [e, h]
  · simp [e]
theorem octs_len (x : Str) : (octs x).length = x.length + 1 := by simp [octs, PySem.Str.length]
theorem tapeAll_snoc {ts : List Str} {i : Nat} {x : Str} (h : ts[i]? = some x) : tapeAll (ts.take (i + 1)) = tapeAll (ts.take i) ++ octs x := by
  unfold tapeAll
  rw [List.take_add_one, h]
  simp
theorem tapeAll_len (ts : List Str) (h : ∀ x ∈ ts, x.length ≤ 3) : (tapeAll ts).length ≤ 4 * ts.length := by
  unfold tapeAll
  induction ts with
  | nil => simp
  | cons x r ih =>
    have h1 := h x (.head _)
    have h2 := ih fun y hy => h y (.tail _ hy)
    simp only [List.map_cons, List.flatten_cons, List.length_append, octs_len, List.length_cons]
    walk_at "o"
theorem mem_take {α : Type} {x : α} {l : List α} {n : Nat} (h : x ∈ l.take n) : x ∈ l := List.mem_of_mem_take h
inductive TJ (ts : List Str) (k : Int) (tkk : Tok) (lo : Addr) (news : List (Addr × Obj)) (i : Nat) (m : Str → Option Value) (nx : List (Addr × Obj)) : Prop
  | mk (us : List Value) (n' : Nat) (h1 : nx = (lo, listOf us.toArray n') :: news) (h2 : IntsAre us (tapeAll (ts.take i))) (h3 : m (Str.ofString "octets") = some (.ref lo)) (h4 : m (Str.ofString "lacking") = some (.int k tkk)) : TJ ts k tkk lo news i m nx
theorem tp_cut {a b : Nat} {k : Int} (h0 : 0 ≤ k) (h : a = b) : ((a : Int) - k).toNat = b - k.toNat := by
  obtain ⟨j, rfl⟩ := Int.eq_ofNat_of_zero_le h0
  subst h
  exact Int.toNat_sub a j
theorem c_tape {w : World} {p : Program} {loose : List Str} {mean : ExcName → Option Value} {mg mb : Str → Option Value}
  (dp un : Nat) (gd : Option (List Code)) (cn : Str) (cs : Scope) (a : Addr) (ccd : Value) (cl : List (Str × Addr)) (outer : List Env) (A₀ : Around) (base h₀ : Heap) (L : Addr) (m : Str → Option Value) (news : List (Addr × Obj)) (s : Shared)
    (Q E : Value → Shared → Prop)
    (B : Below A₀ base outer h₀) (F : Fr h₀ L s.heap m) (KX : (hd.heap_1 w.params).In h₀) (T : Top p loose mean mg mb h₀) (hk : cs.kind = .function) (hd : dp + 10 < recursionLimit) (hu : un + 80 < cLine)
    (N : News h₀ L s.heap news) (l : Addr) (vs : List Value) (ts : List Str) (nn : Nat) (k : Int) (tkk : Tok) (hl : (l, listOf vs.toArray nn) ∈ news) (hvs : StrsAre vs ts) (hn : ts.length ≤ 40) (hsz : ∀ x ∈ ts, x.length ≤ 3) (hk0 : 0 ≤ k) (hk1 : k ≤ ((tapeAll ts).length : Int))
    (hret : ∀ D ws n h' tk', Fr h₀ L h' m → News h₀ L h' ((D, listOf ws.toArray n) :: news) → IntsAre ws ((tapeAll ts).take ((tapeAll ts).length - k.toNat)) → (∀ p ∈ news, p.1 < D) → Q (.ref D) { s with heap := h', toks := tk' }) :
    wpAny (model Challenge.rw_il0109_01.row.prog w) (ktrTop dp un gd cn cs L a ccd cl outer) (call (.ref 77) [.ref l, .int k tkk]) Q E s := by
  refine wpAny_call ?_
  revert KX; k_fill; intro KX
  k_dflt ktr_enter
  (repeat' first | ((with_reducible show wpAny _ _ (call (Value.builtin "len") [Value.ref _]) _ _ _); k_dflt (refine' len_list (by first | ((exact News.isList (by k_asm) (by walk_at "mem")); done) | fail) (by first | ((walk_at "len"); done) | fail) ?_); (try simp only [List.size_toArray])) | (((with_reducible show wpAny _ _ (binaryOp _ (Value.ref _) (Value.ref _)) _ _ _); (rename Fr _ _ _ _ => hF'); (rename News _ _ _ _ => hN'); (refine Mine.add_lists' hF' hN' (by walk_at "mem") (by walk_at "mem") ?_ (by walk_at "len") (by walk_at "len")); clear hF' hN'; intro _ _ _ _ l1; (try k_lt l1)); (try (revert l1; intro _))) | ((with_reducible show wpAny _ _ (inplaceOp _ (Value.ref _) (Value.ref _)) _ _ _); (rename Fr _ _ _ _ => hF'); (rename News _ _ _ _ => hN'); (refine Mine.iadd_list hF' hN' (by walk_at "mem") (by k_upd) ?_ (by walk_at "len") (by walk_at "len")); clear hF' hN'; intro _ _ _) | (((with_reducible show wpAny _ _ (subscriptTail _ (PySem.Expr.Slice _ _ none _) (Value.ref _) (Value.ref _)) _ _ _); (rename Fr _ _ _ _ => hF'); (rename News _ _ _ _ => hN'); k_dflt (refine' Mine.slice_at hF' hN' (by first | ((walk_at "mem"); done) | fail) (by first | ((kmk_part); done) | fail) (by first | ((kmk_part); done) | fail) (by first | ((walk_at "pick"); done) | fail) ?_ (by with_unfolding_all rfl) (by first | ((kmk_pure); done) | fail) (by first | ((walk_at "len"); done) | fail)); clear hF' hN'; intro _ _ _ _ l1; (try k_lt l1)); (try (revert l1; intro _))) | walk_at "g")
  rename Fr _ _ _ _ => F1
  rename News _ _ _ _ => N1
  rename_i lo h1 hlo h2
  refine For_invVF F1 rfl rfl ?_
  (repeat' first | ((with_reducible show wpAny _ _ (call (Value.builtin "len") [Value.ref _]) _ _ _); k_dflt (refine' len_list (by first | ((exact News.isList (by k_asm) (by walk_at "mem")); done) | fail) (by first | ((walk_at "len"); done) | fail) ?_); (try simp only [List.size_toArray])) | (((with_reducible show wpAny _ _ (binaryOp _ (Value.ref _) (Value.ref _)) _ _ _); (rename Fr _ _ _ _ => hF'); (rename News _ _ _ _ => hN'); (refine Mine.add_lists' hF' hN' (by walk_at "mem") (by walk_at "mem") ?_ (by walk_at "len") (by walk_at "len")); clear hF' hN'; intro _ _ _ _ l1; (try k_lt l1)); (try (revert l1; intro _))) | ((with_reducible show wpAny _ _ (inplaceOp _ (Value.ref _) (Value.ref _)) _ _ _); (rename Fr _ _ _ _ => hF'); (rename News _ _ _ _ => hN'); (refine Mine.iadd_list hF' hN' (by walk_at "mem") (by k_upd) ?_ (by walk_at "len") (by walk_at "len")); clear hF' hN'; intro _ _ _) | (((with_reducible show wpAny _ _ (subscriptTail _ (PySem.Expr.Slice _ _ none _) (Value.ref _) (Value.ref _)) _ _ _); (rename Fr _ _ _ _ => hF'); (rename News _ _ _ _ => hN'); k_dflt (refine' Mine.slice_at hF' hN' (by first | ((walk_at "mem"); done) | fail) (by first | ((kmk_part); done) | fail) (by first | ((kmk_part); done) | fail) (by first | ((walk_at "pick"); done) | fail) ?_ (by with_unfolding_all rfl) (by first | ((kmk_pure); done) | fail) (by first | ((walk_at "len"); done) | fail)); clear hF' hN'; intro _ _ _ _ l1; (try k_lt l1)); (try (revert l1; intro _))) | walk_at "g")
  refine for_list (TJ ts k tkk lo news) rfl F1 N1 (.tail _ hl) ?_ ?_ ?_ ?_
  · rintro i m nx ⟨us, n', rfl, _⟩
    exact ⟨.tail _ hl, rfl⟩
  · exact ⟨[], 0, rfl, .nil, (by with_unfolding_all rfl), (by with_unfolding_all rfl)⟩
  · rintro i v m₁ nx h tk' I o hv hI ⟨us, n', rfl, hus, hm1, hm2⟩ F2 N2
    clear F1 N1
    k_lt hI
    rw [mset hm1, mset hm2] at F2
    obtain ⟨x, tx, rfl, hx⟩ := hvs.item i v hv
    have hx3 := hsz x (List.mem_of_getElem? hx)
    have hlen : us.length ≤ 200 := by
      have h1 := hus.length
      have h2 := tapeAll_len (ts.take i) fun y hy => hsz y (mem_take hy)
      rw [List.length_take] at h2
      walk_at "o"
    (repeat' first | ((with_reducible show wpAny _ _ (call (Value.builtin "len") [Value.ref _]) _ _ _); k_dflt (refine' len_list (by first | ((exact News.isList (by k_asm) (by walk_at "mem")); done) | fail) (by first | ((walk_at "len"); done) | fail) ?_); (try simp only [List.size_toArray])) | (((with_reducible show wpAny _ _ (binaryOp _ (Value.ref _) (Value.ref _)) _ _ _); (rename Fr _ _ _ _ => hF'); (rename News _ _ _ _ => hN'); (refine Mine.add_lists' hF' hN' (by walk_at "mem") (by walk_at "mem") ?_ (by walk_at "len") (by walk_at "len")); clear hF' hN'; intro _ _ _ _ l1; (try k_lt l1)); (try (revert l1; intro _))) | ((with_reducible show wpAny _ _ (inplaceOp _ (Value.ref _) (Value.ref _)) _ _ _); (rename Fr _ _ _ _ => hF'); (rename News _ _ _ _ => hN'); (refine Mine.iadd_list hF' hN' (by walk_at "mem") (by k_upd) ?_ (by walk_at "len") (by walk_at "len")); clear hF' hN'; intro _ _ _) | (((with_reducible show wpAny _ _ (subscriptTail _ (PySem.Expr.Slice _ _ none _) (Value.ref _) (Value.ref _)) _ _ _); (rename Fr _ _ _ _ => hF'); (rename News _ _ _ _ => hN'); k_dflt (refine' Mine.slice_at hF' hN' (by first | ((walk_at "mem"); done) | fail) (by first | ((kmk_part); done) | fail) (by first | ((kmk_part); done) | fail) (by first | ((walk_at "pick"); done) | fail) ?_ (by with_unfolding_all rfl) (by first | ((kmk_pure); done) | fail) (by first | ((walk_at "len"); done) | fail)); clear hF' hN'; intro _ _ _ _ l1; (try k_lt l1)); (try (revert l1; intro _))) | walk_at "g")
    rename Fr _ _ _ _ => F3
    rename News _ _ _ _ => N3
    rename_i l3 h3
    refine comp_str (cl := []) F3 (by with_unfolding_all rfl) (by decide) rfl (by decide) rfl ?_ (by intro _; with_unfolding_all rfl)
    (repeat' first | ((with_reducible show wpAny _ _ (call (Value.builtin "len") [Value.ref _]) _ _ _); k_dflt (refine' len_list (by first | ((exact News.isList (by k_asm) (by walk_at "mem")); done) | fail) (by first | ((walk_at "len"); done) | fail) ?_); (try simp only [List.size_toArray])) | (((with_reducible show wpAny _ _ (binaryOp _ (Value.ref _) (Value.ref _)) _ _ _); (rename Fr _ _ _ _ => hF'); (rename News _ _ _ _ => hN'); (refine Mine.add_lists' hF' hN' (by walk_at "mem") (by walk_at "mem") ?_ (by walk_at "len") (by walk_at "len")); clear hF' hN'; intro _ _ _ _ l1; (try k_lt l1)); (try (revert l1; intro _))) | ((with_reducible show wpAny _ _ (inplaceOp _ (Value.ref _) (Value.ref _)) _ _ _); (rename Fr _ _ _ _ => hF'); (rename News _ _ _ _ => hN'); (refine Mine.iadd_list hF' hN' (by walk_at "mem") (by k_upd) ?_ (by walk_at "len") (by walk_at "len")); clear hF' hN'; intro _ _ _) | (((with_reducible show wpAny _ _ (subscriptTail _ (PySem.Expr.Slice _ _ none _) (Value.ref _) (Value.ref _)) _ _ _); (rename Fr _ _ _ _ => hF'); (rename News _ _ _ _ => hN'); k_dflt (refine' Mine.slice_at hF' hN' (by first | ((walk_at "mem"); done) | fail) (by first | ((kmk_part); done) | fail) (by first | ((kmk_part); done) | fail) (by first | ((walk_at "pick"); done) | fail) ?_ (by with_unfolding_all rfl) (by first | ((kmk_pure); done) | fail) (by first | ((walk_at "len"); done) | fail)); clear hF' hN'; intro _ _ _ _ l1; (try k_lt l1)); (try (revert l1; intro _))) | walk_at "g")
    refine SrcS.intro rfl F3 N3 (by rw [sizeLine_eq]; show x.length ≤ _; walk_at "o") ?_
    intro h4
    refine rest_inv (fun i ys nx => nx = _ ∧ IntsAre ys ((x.cps.toList.map (fun (c : Nat) => (c : Int))).take i)) ⟨rfl, .nil⟩ ?_ ?_
    · rintro i v ys nx Ic oI C oC D m₂ h5 tk5 E' hi ⟨c, u, hc, rfl⟩ ⟨rfl, hys⟩ hC hxv F5 N5 off ne
      (repeat' first | ((with_reducible show wpAny _ _ (call (Value.builtin "len") [Value.ref _]) _ _ _); k_dflt (refine' len_list (by first | ((exact News.isList (by k_asm) (by walk_at "mem")); done) | fail) (by first | ((walk_at "len"); done) | fail) ?_); (try simp only [List.size_toArray])) | (((with_reducible show wpAny _ _ (binaryOp _ (Value.ref _) (Value.ref _)) _ _ _); (rename Fr _ _ _ _ => hF'); (rename News _ _ _ _ => hN'); (refine Mine.add_lists' hF' hN' (by walk_at "mem") (by walk_at "mem") ?_ (by walk_at "len") (by walk_at "len")); clear hF' hN'; intro _ _ _ _ l1; (try k_lt l1)); (try (revert l1; intro _))) | ((with_reducible show wpAny _ _ (inplaceOp _ (Value.ref _) (Value.ref _)) _ _ _); (rename Fr _ _ _ _ => hF'); (rename News _ _ _ _ => hN'); (refine Mine.iadd_list hF' hN' (by walk_at "mem") (by k_upd) ?_ (by walk_at "len") (by walk_at "len")); clear hF' hN'; intro _ _ _) | (((with_reducible show wpAny _ _ (subscriptTail _ (PySem.Expr.Slice _ _ none _) (Value.ref _) (Value.ref _)) _ _ _); (rename Fr _ _ _ _ => hF'); (rename News _ _ _ _ => hN'); k_dflt (refine' Mine.slice_at hF' hN' (by first | ((walk_at "mem"); done) | fail) (by first | ((kmk_part); done) | fail) (by first | ((kmk_part); done) | fail) (by first | ((walk_at "pick"); done) | fail) ?_ (by with_unfolding_all rfl) (by first | ((kmk_pure); done) | fail) (by first | ((walk_at "len"); done) | fail)); clear hF' hN'; intro _ _ _ _ l1; (try k_lt l1)); (try (revert l1; intro _))) | walk_at "g")
      refine LCg.CompEnd.intro (by assumption) (by assumption) _ (fun p hp => hp) off trivial ⟨rfl, ?_⟩
      have e : (x.cps.toList.map (fun (c : Nat) => (c : Int)))[i]? = some (c : Int) := by
        rw [List.getElem?_map, Array.getElem?_toList, hc]; rfl
      rw [List.take_add_one, e]
      exact hys.append (.cons _ _ .nil)
    · rintro ys nx ⟨rfl, hys⟩
      intro D h5 tk5 F5 N5 off
      simp only [LCg.Off1] at off
      have hfull : (x.cps.toList.map (fun (c : Nat) => (c : Int))).take x.cps.size = x.cps.toList.map (fun (c : Nat) => (c : Int)) := List.take_of_length_le (by simp)
      rw [hfull] at hys
      have hyl : ys.length ≤ 3 := by
        have h1 := hys.length
        have h2 : x.length = x.cps.size := rfl
        simp only [List.length_map, Array.length_toList] at h1
        walk_at "o"
      (repeat' first | ((with_reducible show wpAny _ _ (call (Value.builtin "len") [Value.ref _]) _ _ _); k_dflt (refine' len_list (by first | ((exact News.isList (by k_asm) (by walk_at "mem")); done) | fail) (by first | ((walk_at "len"); done) | fail) ?_); (try simp only [List.size_toArray])) | (((with_reducible show wpAny _ _ (binaryOp _ (Value.ref _) (Value.ref _)) _ _ _); (rename Fr _ _ _ _ => hF'); (rename News _ _ _ _ => hN'); (refine Mine.add_lists' hF' hN' (by walk_at "mem") (by walk_at "mem") ?_ (by walk_at "len") (by walk_at "len")); clear hF' hN'; intro _ _ _ _ l1; (try k_lt l1)); (try (revert l1; intro _))) | ((with_reducible show wpAny _ _ (inplaceOp _ (Value.ref _) (Value.ref _)) _ _ _); (rename Fr _ _ _ _ => hF'); (rename News _ _ _ _ => hN'); (refine Mine.iadd_list hF' hN' (by walk_at "mem") (by k_upd) ?_ (by walk_at "len") (by walk_at "len")); clear hF' hN'; intro _ _ _) | (((with_reducible show wpAny _ _ (subscriptTail _ (PySem.Expr.Slice _ _ none _) (Value.ref _) (Value.ref _)) _ _ _); (rename Fr _ _ _ _ => hF'); (rename News _ _ _ _ => hN'); k_dflt (refine' Mine.slice_at hF' hN' (by first | ((walk_at "mem"); done) | fail) (by first | ((kmk_part); done) | fail) (by first | ((kmk_part); done) | fail) (by first | ((walk_at "pick"); done) | fail) ?_ (by with_unfolding_all rfl) (by first | ((kmk_pure); done) | fail) (by first | ((walk_at "len"); done) | fail)); clear hF' hN'; intro _ _ _ _ l1; (try k_lt l1)); (try (revert l1; intro _))) | walk_at "g")
      refine' inv_end ?F ?N ?_
      case F => assumption
      case N => assumption
      refine ⟨_, ⟨_, _, rfl, ?_, (by with_unfolding_all rfl), (by with_unfolding_all first | rfl | exact hm2)⟩, (by walk_at "sub"), (by walk_at "sub"), (by exact rfl)⟩
      rw [tapeAll_snoc hx]
      exact hus.append (.cons _ _ hys)
  · rintro m₁ nx h tk' ⟨us, n', rfl, hus, hm1, hm2⟩ F2 N2
    clear F1 N1
    have hall : ts.take vs.length = ts := List.take_of_length_le (by rw [hvs.length]; exact Nat.le_refl _)
    rw [hall] at hus
    have hl1 := hus.length
    have hlen : us.length ≤ 200 := by
      have h2 := tapeAll_len ts hsz
      walk_at "o"
    rw [mset hm1, mset hm2] at F2
    (repeat' first | ((with_reducible show wpAny _ _ (call (Value.builtin "len") [Value.ref _]) _ _ _); k_dflt (refine' len_list (by first | ((exact News.isList (by k_asm) (by walk_at "mem")); done) | fail) (by first | ((walk_at "len"); done) | fail) ?_); (try simp only [List.size_toArray])) | (((with_reducible show wpAny _ _ (binaryOp _ (Value.ref _) (Value.ref _)) _ _ _); (rename Fr _ _ _ _ => hF'); (rename News _ _ _ _ => hN'); (refine Mine.add_lists' hF' hN' (by walk_at "mem") (by walk_at "mem") ?_ (by walk_at "len") (by walk_at "len")); clear hF' hN'; intro _ _ _ _ l1; (try k_lt l1)); (try (revert l1; intro _))) | ((with_reducible show wpAny _ _ (inplaceOp _ (Value.ref _) (Value.ref _)) _ _ _); (rename Fr _ _ _ _ => hF'); (rename News _ _ _ _ => hN'); (refine Mine.iadd_list hF' hN' (by walk_at "mem") (by k_upd) ?_ (by walk_at "len") (by walk_at "len")); clear hF' hN'; intro _ _ _) | (((with_reducible show wpAny _ _ (subscriptTail _ (PySem.Expr.Slice _ _ none _) (Value.ref _) (Value.ref _)) _ _ _); (rename Fr _ _ _ _ => hF'); (rename News _ _ _ _ => hN'); k_dflt (refine' Mine.slice_at hF' hN' (by first | ((walk_at "mem"); done) | fail) (by first | ((kmk_part); done) | fail) (by first | ((kmk_part); done) | fail) (by first | ((walk_at "pick"); done) | fail) ?_ (by with_unfolding_all rfl) (by first | ((kmk_pure); done) | fail) (by first | ((walk_at "len"); done) | fail)); clear hF' hN'; intro _ _ _ _ l1; (try k_lt l1)); (try (revert l1; intro _))) | walk_at "g")
    rename (_ ∧ AllLt _ _) => l1
    rename Fr h₀ _ _ _ => kF
    rename News h₀ _ _ _ => kN
    refine hret _ _ _ _ _ kF (news_sub kN (by walk_at "sub")) ?_ (allLt_mem l1.2)
    refine Eq.mp (congrArg (fun j => IntsAre _ ((tapeAll ts).take j)) ?_) (hus.take _)
    exact tp_cut (by assumption) hl1
end
section
noncomputable def notEnough : Str := Str.ofString "not enough data in stream to read uint1"
noncomputable def expectedMsg (c k : Int) : Str := Str.ofString "expected " ++ Str.ofString (toString c) ++ Str.ofString " bytes in a string1, but only " ++ Str.ofString (toString k) ++ Str.ofString " remain"
/-- the text of some octets -/
noncomputable def textOf (ns : List Int) : Str := ⟨(ns.map Int.toNat).toArray⟩
/-- what a tape tells: the whole texts, the refusal -/
noncomputable def whole (ns : List Int) : List Str × Str := match ns with
  | [] => ([], notEnough)
  | c :: r => if r.length < c.toNat then ([], expectedMsg c r.length) else
    let w := whole (r.drop c.toNat)
    (textOf (r.take c.toNat) :: w.1, w.2)
termination_by ns.length
decreasing_by exact Nat.lt_succ_of_le (by rw [List.length_drop]; exact Nat.sub_le _ _)

theorem empty_cps : (Str.ofString "").cps = #[] := by decide +kernel
theorem joinS_texts : ∀ l : List Int, Str.join (Str.ofString "") (l.map fun c => ⟨#[c.toNat]⟩) = textOf l
  | [] => rfl
  | [c] => rfl
  | c :: d :: l => by
    have h := joinS_texts (d :: l)
    have e : Str.join (Str.ofString "") ((c :: d :: l).map fun c => ⟨#[c.toNat]⟩) = (⟨#[c.toNat]⟩ : Str) ++ Str.ofString "" ++ Str.join (Str.ofString "") ((d :: l).map fun c => ⟨#[c.toNat]⟩) := rfl
    rw [e, h]
    have key : ((⟨#[c.toNat]⟩ : Str) ++ Str.ofString "" ++ textOf (d :: l)).cps = (textOf (c :: d :: l)).cps := by
      rw [Str.cps_append, Str.cps_append, empty_cps]
      simp [textOf]
    exact congrArg Str.mk key
theorem join_texts (l : List Int) : Txt.join (Str.ofString "") (l.map fun c => ⟨#[c.toNat]⟩) = textOf l :=
  (StrLaws.glued_eq_join _ _).trans (joinS_texts l)
noncomputable abbrev tupOf (vs : List Value) : Obj := { cls := .type "tuple", data := .seq vs.toArray }
inductive WJ (ns : List Int) (l lt : Addr) (news : List (Addr × Obj)) (n : Nat) (m : Str → Option Value) (nx : List (Addr × Obj)) : Prop
  | mk (q : Nat) (tsd : List Str) (ws : List Value) (n' : Nat) (tp : Tok) (pl : Int) (h1 : nx = (lt, listOf ws.toArray n') :: news) (h2 : StrsAre ws tsd) (h3 : m (Str.ofString "texts") = some (.ref lt)) (h4 : m (Str.ofString "place") = some (.int pl tp)) (h5 : pl = (q : Int)) (h6 : m (Str.ofString "octets") = some (.ref l)) (h7 : q ≤ ns.length) (h8 : n = ns.length - q) (h9 : tsd.length ≤ q) (h10 : whole ns = (tsd ++ (whole (ns.drop q)).1, (whole (ns.drop q)).2)) : WJ ns l lt news n m nx
theorem wh_cut (q : Nat) {c : Int} (hc : 0 ≤ c) : ((q : Int) + 1 + c).toNat - ((q : Int) + 1).toNat = c.toNat := by
  obtain ⟨n, rfl⟩ := Int.eq_ofNat_of_zero_le hc
  exact Nat.add_sub_cancel_left (n := q + 1) (m := n)
theorem wh_ge {a : Nat} {c : Int} (hc : 0 ≤ c) (h : ¬ ((min c.toNat a : Nat) : Int) < c) : c.toNat ≤ a := by
  obtain ⟨n, rfl⟩ := Int.eq_ofNat_of_zero_le hc
  exact Nat.le_of_not_lt fun k => h (Int.ofNat_lt.mpr (Nat.lt_of_le_of_lt (Nat.min_le_right _ _) k))
theorem wh_lt {a : Nat} {c : Int} (hc : 0 ≤ c) (h : ((min c.toNat a : Nat) : Int) < c) : a < c.toNat := by
  obtain ⟨n, rfl⟩ := Int.eq_ofNat_of_zero_le hc
  exact Nat.lt_of_not_le fun k => absurd (Nat.min_eq_left k) (Nat.ne_of_lt (Int.ofNat_lt.mp h))
theorem wh_to (q : Nat) {c : Int} (hc : 0 ≤ c) : (q : Int) + (1 + c) = ((q + 1 + c.toNat : Nat) : Int) := by
  obtain ⟨n, rfl⟩ := Int.eq_ofNat_of_zero_le hc
  exact (Int.add_assoc _ _ _).symm
theorem wh_le {a b c : Nat} (h : a ≤ 200) : min b (a - c) ≤ 200 := Nat.le_trans (Nat.min_le_right _ _) (Nat.le_trans (Nat.sub_le _ _) h)
theorem c_whole {w : World} {p : Program} {loose : List Str} {mean : ExcName → Option Value} {mg mb : Str → Option Value}
  (dp un : Nat) (gd : Option (List Code)) (cn : Str) (cs : Scope) (a : Addr) (ccd : Value) (cl : List (Str × Addr)) (outer : List Env) (A₀ : Around) (base h₀ : Heap) (L : Addr) (m : Str → Option Value) (news : List (Addr × Obj)) (s : Shared)
    (Q E : Value → Shared → Prop)
    (B : Below A₀ base outer h₀) (F : Fr h₀ L s.heap m) (KX : (hd.heap_1 w.params).In h₀) (T : Top p loose mean mg mb h₀) (hk : cs.kind = .function) (hd : dp + 10 < recursionLimit) (hu : un + 80 < cLine)
    (N : News h₀ L s.heap news) (l : Addr) (vs : List Value) (ns : List Int) (nn : Nat) (hl : (l, listOf vs.toArray nn) ∈ news) (hvs : IntsAre vs ns) (hn : ns.length ≤ 200) (hb : ∀ x ∈ ns, 0 ≤ x ∧ x < 256)
    (hret : ∀ D lt ws n t h' tk', Fr h₀ L h' m → News h₀ L h' ((D, tupOf [.ref lt, .str (whole ns).2 t]) :: (lt, listOf ws.toArray n) :: news) → StrsAre ws (whole ns).1 → (∀ p ∈ news, p.1 < lt) → lt < D → Q (.ref D) { s with heap := h', toks := tk' }) :
    wpAny (model Challenge.rw_il0109_01.row.prog w) (ktrTop dp un gd cn cs L a ccd cl outer) (call (.ref 103) [.ref l]) Q E s := by
  refine wpAny_call ?_
  revert KX; k_fill; intro KX
  k_dflt ktr_enter
  (repeat' first | ((with_reducible show wpAny _ _ (call (Value.builtin "len") [Value.ref _]) _ _ _); k_dflt (refine' len_list (by first | ((exact News.isList (by k_asm) (by walk_at "mem")); done) | fail) (by first | ((walk_at "len"); done) | fail) ?_); (try simp only [List.size_toArray])) | (((with_reducible show wpAny _ _ (subscriptTail _ (PySem.Expr.Slice _ _ none _) (Value.ref _) (Value.ref _)) _ _ _); (rename Fr _ _ _ _ => hF'); (rename News _ _ _ _ => hN'); k_dflt (refine' Mine.slice_at hF' hN' (by first | ((walk_at "mem"); done) | fail) (by first | ((kmk_part); done) | fail) (by first | ((kmk_part); done) | fail) (by first | ((walk_at "pick"); done) | fail) ?_ (by with_unfolding_all rfl) (by first | ((kmk_pure); done) | fail) (by first | ((walk_at "len"); done) | fail)); clear hF' hN'; intro _ _ _ _ l1; (try k_lt l1)); (try (revert l1; intro _))) | ((with_reducible show WhileStep2 _ _ _ _ _ _ (Flow.ret _) _); dsimp only [WhileStep2]) | ((with_reducible show wpAny _ _ (call (Value.builtin _) [Value.ref _, _]) _ _ _); (rename Fr _ _ _ _ => hF'); (rename News _ _ _ _ => hN'); (refine Mine.append_list hF' hN' (by k_upd) ?_ (by walk_at "len")); clear hF' hN'; intro _ _ _) | walk_at "g")
  rename Fr _ _ _ _ => F1
  rename News _ _ _ _ => N1
  rename_i tk0 lt h1 hlt h2 h3
  have hvl := hvs.length
  refine While_inv2 (WJ ns l lt news) (n₀ := ns.length) F1 N1 ?_ ?_
  · refine ⟨0, [], [], 0, _, _, rfl, .nil, (by with_unfolding_all rfl), (by with_unfolding_all rfl), rfl, (by with_unfolding_all rfl), by walk_at "o", by walk_at "o", by simp, by simp⟩
  · rintro n m₁ nx h4 tk4 F2 N2 ⟨q, tsd, ws, n', tp, pl, rfl, hws, hm1, hm2, rfl, hm3, hq, rfl, hle, hw⟩
    clear F1 N1
    rw [mset hm1, mset hm2, mset hm3] at F2
    (repeat' first | ((with_reducible show wpAny _ _ (call (Value.builtin "len") [Value.ref _]) _ _ _); k_dflt (refine' len_list (by first | ((exact News.isList (by k_asm) (by walk_at "mem")); done) | fail) (by first | ((walk_at "len"); done) | fail) ?_); (try simp only [List.size_toArray])) | (((with_reducible show wpAny _ _ (subscriptTail _ (PySem.Expr.Slice _ _ none _) (Value.ref _) (Value.ref _)) _ _ _); (rename Fr _ _ _ _ => hF'); (rename News _ _ _ _ => hN'); k_dflt (refine' Mine.slice_at hF' hN' (by first | ((walk_at "mem"); done) | fail) (by first | ((kmk_part); done) | fail) (by first | ((kmk_part); done) | fail) (by first | ((walk_at "pick"); done) | fail) ?_ (by with_unfolding_all rfl) (by first | ((kmk_pure); done) | fail) (by first | ((walk_at "len"); done) | fail)); clear hF' hN'; intro _ _ _ _ l1; (try k_lt l1)); (try (revert l1; intro _))) | ((with_reducible show WhileStep2 _ _ _ _ _ _ (Flow.ret _) _); dsimp only [WhileStep2]) | ((with_reducible show wpAny _ _ (call (Value.builtin _) [Value.ref _, _]) _ _ _); (rename Fr _ _ _ _ => hF'); (rename News _ _ _ _ => hN'); (refine Mine.append_list hF' hN' (by k_upd) ?_ (by walk_at "len")); clear hF' hN'; intro _ _ _) | walk_at "g")
    · rename ((_ : Int) < _) => hq2
      obtain ⟨c, hc⟩ : ∃ c, ns[q]? = some c := ⟨ns[q]'(by walk_at "o"), by simp⟩
      obtain ⟨tc, htc⟩ := hvs.get q c hc
      obtain ⟨hc0, hc1⟩ := hb c (List.mem_of_getElem? hc)
      rename News _ _ _ _ => N3
      refine item_list (N3.isList (by walk_at "mem")) (by walk_at "o") (by walk_at "o") (x := .int c tc) (by simpa using htc) ?_
      have hdrop : ns.drop q = c :: ns.drop (q + 1) := by
        rw [List.drop_eq_getElem_cons (by walk_at "o")]
        congr 1
        have := hc
        rw [List.getElem?_eq_getElem (by walk_at "o")] at this
        exact Option.some.inj this
      have hcut : (((q : Int) + 1 + c).toNat - ((q : Int) + 1).toNat) = c.toNat := wh_cut q hc0
      have hq1 : ((q : Int) + 1).toNat = q + 1 := rfl
      (repeat' first | ((with_reducible show wpAny _ _ (call (Value.builtin "len") [Value.ref _]) _ _ _); k_dflt (refine' len_list (by first | ((exact News.isList (by k_asm) (by walk_at "mem")); done) | fail) (by first | ((walk_at "len"); done) | fail) ?_); (try simp only [List.size_toArray])) | (((with_reducible show wpAny _ _ (subscriptTail _ (PySem.Expr.Slice _ _ none _) (Value.ref _) (Value.ref _)) _ _ _); (rename Fr _ _ _ _ => hF'); (rename News _ _ _ _ => hN'); k_dflt (refine' Mine.slice_at hF' hN' (by first | ((walk_at "mem"); done) | fail) (by first | ((kmk_part); done) | fail) (by first | ((kmk_part); done) | fail) (by first | ((walk_at "pick"); done) | fail) ?_ (by with_unfolding_all rfl) (by first | ((kmk_pure); done) | fail) (by first | ((walk_at "len"); done) | fail)); clear hF' hN'; intro _ _ _ _ l1; (try k_lt l1)); (try (revert l1; intro _))) | ((with_reducible show WhileStep2 _ _ _ _ _ _ (Flow.ret _) _); dsimp only [WhileStep2]) | ((with_reducible show wpAny _ _ (call (Value.builtin _) [Value.ref _, _]) _ _ _); (rename Fr _ _ _ _ => hF'); (rename News _ _ _ _ => hN'); (refine Mine.append_list hF' hN' (by k_upd) ?_ (by walk_at "len")); clear hF' hN'; intro _ _ _) | walk_at "g")
      · rename ((_ : Int) < c) => hlen5
        rename (_ < _ ∧ _ < _ ∧ AllLt _ _) => l1
        rename Fr h₀ _ _ _ => kF
        rename News h₀ _ _ _ => kN
        rw [hcut, hq1] at hlen5
        simp only [List.length_take, List.length_drop, hvl] at hlen5
        have hw2 : ∀ k : Int, k = ((ns.drop (q + 1)).length : Int) → whole ns = (tsd, expectedMsg c k) := by
          intro k hk
          rw [hw, hdrop, whole, if_pos (by rw [List.length_drop]; exact wh_lt hc0 hlen5), hk]
          simp
        have hr : ∀ k : Int, k = ((ns.drop (q + 1)).length : Int) → ∀ D lt ws n t h' tk', Fr h₀ L h' m → News h₀ L h' ((D, tupOf [.ref lt, .str (expectedMsg c k) t]) :: (lt, listOf ws.toArray n) :: news) → StrsAre ws tsd → (∀ p ∈ news, p.1 < lt) → lt < D → Q (.ref D) { s with heap := h', toks := tk' } := by
          intro k hk
          have h := hret
          rw [hw2 k hk] at h
          exact h
        refine hr _ ?_ _ _ _ _ _ _ _ kF (news_sub kN (by walk_at "sub")) hws hlt l1.2.1
        rw [hcut, hq1]
        simp only [List.length_take, List.length_drop, hvl]
        rw [Nat.min_eq_right (Nat.le_of_lt (wh_lt hc0 hlen5))]
      · rename Fr _ _ _ _ => F5
        rename News _ _ _ _ => N5
        refine LCg.ListComp_U (cl := []) F5 (by with_unfolding_all rfl) (by decide) rfl (by decide) rfl ?_ (by intro _; with_unfolding_all rfl)
        (repeat' first | ((with_reducible show wpAny _ _ (call (Value.builtin "len") [Value.ref _]) _ _ _); k_dflt (refine' len_list (by first | ((exact News.isList (by k_asm) (by walk_at "mem")); done) | fail) (by first | ((walk_at "len"); done) | fail) ?_); (try simp only [List.size_toArray])) | (((with_reducible show wpAny _ _ (subscriptTail _ (PySem.Expr.Slice _ _ none _) (Value.ref _) (Value.ref _)) _ _ _); (rename Fr _ _ _ _ => hF'); (rename News _ _ _ _ => hN'); k_dflt (refine' Mine.slice_at hF' hN' (by first | ((walk_at "mem"); done) | fail) (by first | ((kmk_part); done) | fail) (by first | ((kmk_part); done) | fail) (by first | ((walk_at "pick"); done) | fail) ?_ (by with_unfolding_all rfl) (by first | ((kmk_pure); done) | fail) (by first | ((walk_at "len"); done) | fail)); clear hF' hN'; intro _ _ _ _ l1; (try k_lt l1)); (try (revert l1; intro _))) | ((with_reducible show WhileStep2 _ _ _ _ _ _ (Flow.ret _) _); dsimp only [WhileStep2]) | ((with_reducible show wpAny _ _ (call (Value.builtin _) [Value.ref _, _]) _ _ _); (rename Fr _ _ _ _ => hF'); (rename News _ _ _ _ => hN'); (refine Mine.append_list hF' hN' (by k_upd) ?_ (by walk_at "len")); clear hF' hN'; intro _ _ _) | walk_at "g")
        refine LCg.CompSrc.ledger rfl F5 N5 (.head _) (by rw [sizeLine_eq]; walk_at "len") ?_
        intro g
        have hrI : IntsAre ((vs.drop (q + 1)).take c.toNat) ((ns.drop (q + 1)).take c.toNat) := (hvs.drop _).take _
        refine rest_inv (fun i ys nx => nx = _ ∧ StrsAre ys (((((ns.drop (q + 1)).take c.toNat).take i)).map fun c => ⟨#[c.toNat]⟩)) ⟨rfl, .nil⟩ ?_ ?_
        · rintro i v ys nx Ic oI C oC D m₂ h5 tk5 E' hi hv ⟨rfl, hys⟩ hC hxv F6 N6 off ne
          obtain ⟨k, tk6, rfl, hki⟩ := hrI.at i v (by
            rw [hcut, hq1] at hv
            simpa using hv)
          obtain ⟨hk0, hk1⟩ := hb k (List.mem_of_mem_drop (List.mem_of_mem_take (List.mem_of_getElem? hki)))
          (repeat' first | ((with_reducible show wpAny _ _ (call (Value.builtin "len") [Value.ref _]) _ _ _); k_dflt (refine' len_list (by first | ((exact News.isList (by k_asm) (by walk_at "mem")); done) | fail) (by first | ((walk_at "len"); done) | fail) ?_); (try simp only [List.size_toArray])) | (((with_reducible show wpAny _ _ (subscriptTail _ (PySem.Expr.Slice _ _ none _) (Value.ref _) (Value.ref _)) _ _ _); (rename Fr _ _ _ _ => hF'); (rename News _ _ _ _ => hN'); k_dflt (refine' Mine.slice_at hF' hN' (by first | ((walk_at "mem"); done) | fail) (by first | ((kmk_part); done) | fail) (by first | ((kmk_part); done) | fail) (by first | ((walk_at "pick"); done) | fail) ?_ (by with_unfolding_all rfl) (by first | ((kmk_pure); done) | fail) (by first | ((walk_at "len"); done) | fail)); clear hF' hN'; intro _ _ _ _ l1; (try k_lt l1)); (try (revert l1; intro _))) | ((with_reducible show WhileStep2 _ _ _ _ _ _ (Flow.ret _) _); dsimp only [WhileStep2]) | ((with_reducible show wpAny _ _ (call (Value.builtin _) [Value.ref _, _]) _ _ _); (rename Fr _ _ _ _ => hF'); (rename News _ _ _ _ => hN'); (refine Mine.append_list hF' hN' (by k_upd) ?_ (by walk_at "len")); clear hF' hN'; intro _ _ _) | walk_at "g")
          refine LCg.CompEnd.intro (by assumption) (by assumption) _ (fun p hp => hp) off (.inr ⟨_, .head _, rfl, _, rfl⟩) ⟨rfl, ?_⟩
          rw [List.take_add_one, hki]
          rw [List.map_append]
          exact hys.append' (.cons _ _ .nil)
        · rintro ys nx ⟨rfl, hys⟩
          intro D h5 tk5 F6 N6 off
          simp only [LCg.Off1] at off
          rename (¬ (_ : Int) < c) => hlen5
          rw [hcut, hq1] at hys hlen5
          rw [List.length_take, List.length_drop, hvl] at hlen5
          replace hlen5 := wh_ge hc0 hlen5
          replace hq2 : q < ns.length := by walk_at "o"
          have hfull : ((ns.drop (q + 1)).take c.toNat).take ((vs.drop (q + 1)).take c.toNat).toArray.size = (ns.drop (q + 1)).take c.toNat := List.take_of_length_le (by simp only [List.length_take, List.length_drop, List.size_toArray]; walk_at "o")
          rw [hfull] at hys
          (repeat' first | ((with_reducible show wpAny _ _ (call (Value.builtin "len") [Value.ref _]) _ _ _); k_dflt (refine' len_list (by first | ((exact News.isList (by k_asm) (by walk_at "mem")); done) | fail) (by first | ((walk_at "len"); done) | fail) ?_); (try simp only [List.size_toArray])) | (((with_reducible show wpAny _ _ (subscriptTail _ (PySem.Expr.Slice _ _ none _) (Value.ref _) (Value.ref _)) _ _ _); (rename Fr _ _ _ _ => hF'); (rename News _ _ _ _ => hN'); k_dflt (refine' Mine.slice_at hF' hN' (by first | ((walk_at "mem"); done) | fail) (by first | ((kmk_part); done) | fail) (by first | ((kmk_part); done) | fail) (by first | ((walk_at "pick"); done) | fail) ?_ (by with_unfolding_all rfl) (by first | ((kmk_pure); done) | fail) (by first | ((walk_at "len"); done) | fail)); clear hF' hN'; intro _ _ _ _ l1; (try k_lt l1)); (try (revert l1; intro _))) | ((with_reducible show WhileStep2 _ _ _ _ _ _ (Flow.ret _) _); dsimp only [WhileStep2]) | ((with_reducible show wpAny _ _ (call (Value.builtin _) [Value.ref _, _]) _ _ _); (rename Fr _ _ _ _ => hF'); (rename News _ _ _ _ => hN'); (refine Mine.append_list hF' hN' (by k_upd) ?_ (by walk_at "len")); clear hF' hN'; intro _ _ _) | walk_at "g")
          refine join_listC (items := ys.toArray) (N6.isList (.head _)) hys (by decide) ?_ ?_
          · have h1 : ((ns.drop (q + 1)).take c.toNat).length ≤ 200 := by rw [List.length_take, List.length_drop]; exact wh_le hn
            have h2 := sumLen_le_of_bound (fun c : Int => (⟨#[c.toNat]⟩ : Str)) 1 ((ns.drop (q + 1)).take c.toNat) (fun _ _ => Nat.le_refl _)
            simp only [List.length_map] at h1 h2 ⊢
            walk_at "o"
          · intro t6 k6
            have hwl : ws.length ≤ 200 := by have := hws.length; walk_at "o"
            rw [join_texts]
            (repeat' first | ((with_reducible show wpAny _ _ (call (Value.builtin "len") [Value.ref _]) _ _ _); k_dflt (refine' len_list (by first | ((exact News.isList (by k_asm) (by walk_at "mem")); done) | fail) (by first | ((walk_at "len"); done) | fail) ?_); (try simp only [List.size_toArray])) | (((with_reducible show wpAny _ _ (subscriptTail _ (PySem.Expr.Slice _ _ none _) (Value.ref _) (Value.ref _)) _ _ _); (rename Fr _ _ _ _ => hF'); (rename News _ _ _ _ => hN'); k_dflt (refine' Mine.slice_at hF' hN' (by first | ((walk_at "mem"); done) | fail) (by first | ((kmk_part); done) | fail) (by first | ((kmk_part); done) | fail) (by first | ((walk_at "pick"); done) | fail) ?_ (by with_unfolding_all rfl) (by first | ((kmk_pure); done) | fail) (by first | ((walk_at "len"); done) | fail)); clear hF' hN'; intro _ _ _ _ l1; (try k_lt l1)); (try (revert l1; intro _))) | ((with_reducible show WhileStep2 _ _ _ _ _ _ (Flow.ret _) _); dsimp only [WhileStep2]) | ((with_reducible show wpAny _ _ (call (Value.builtin _) [Value.ref _, _]) _ _ _); (rename Fr _ _ _ _ => hF'); (rename News _ _ _ _ => hN'); (refine Mine.append_list hF' hN' (by k_upd) ?_ (by walk_at "len")); clear hF' hN'; intro _ _ _) | walk_at "g")
            refine' while_end ?F ?N ?_
            case F => assumption
            case N => assumption
            refine' ⟨_, ns.length - (q + 1 + c.toNat), ⟨q + 1 + c.toNat, tsd ++ [textOf ((ns.drop (q + 1)).take c.toNat)], ws ++ [.str (textOf ((ns.drop (q + 1)).take c.toNat)) t6], _, _, _, rfl, hws.append' (.cons _ _ .nil), ?ma, ?mb, ?mp, ?mc, Nat.add_le_of_le_sub' hq2 hlen5, rfl, ?le, ?wh⟩, ?sub, Nat.sub_lt_sub_left hq2 (Nat.lt_of_lt_of_le (Nat.lt_succ_self q) (Nat.le_add_right _ _))⟩
            case sub => walk_at "sub"
            case ma => with_unfolding_all rfl
            case mb => with_unfolding_all rfl
            case mc => with_unfolding_all rfl
            case mp => exact wh_to q hc0
            case le => simp; walk_at "o"
            case wh =>
              rw [hw, hdrop, whole, if_neg (by rw [List.length_drop]; exact Nat.not_lt.mpr hlen5), List.drop_drop]
              simp
    · rename (¬ (_ : Int) < _) => hq2
      rename (_ < _ ∧ AllLt _ _) => l1
      rename Fr h₀ _ _ _ => kF
      rename News h₀ _ _ _ => kN
      have hqe : q = ns.length := by walk_at "o"
      have hw2 : whole ns = (tsd, notEnough) := by
        rw [hw, hqe, List.drop_length, whole]
        simp
      have hr : ∀ D lt ws n t h' tk', Fr h₀ L h' m → News h₀ L h' ((D, tupOf [.ref lt, .str notEnough t]) :: (lt, listOf ws.toArray n) :: news) → StrsAre ws tsd → (∀ p ∈ news, p.1 < lt) → lt < D → Q (.ref D) { s with heap := h', toks := tk' } := by
        have h := hret
        rw [hw2] at h
        exact h
      exact hr _ _ _ _ _ _ _ kF (news_sub kN (by walk_at "sub")) hws hlt l1.1
end
section
local macro_rules | `(tactic| walk_at "nft") => `(tactic| ((conv => arg 1; whnf); first | (apply Mine.cons_is <;> walk_at "nft") | exact Mine.Is.same _))
local macro_rules | `(tactic| walk_at "nf") => `(tactic| first | (refine (?_ : Mine.Is (α := Bool) _ _); (with_unfolding_all conv => arg 1; whnf); exact Mine.Is.same _) | (with_reducible exact Mine.lit_is _) | (apply Mine.text_is; apply Mine.arr_is; walk_at "nft") | ((first | apply Mine.arr_is | apply Mine.args_is | apply Mine.env_is | apply Mine.cdata_is) <;> walk_at "nf") | ((conv => arg 1; whnf); first | ((first | apply Mine.ref_is | apply Mine.strv_is' | apply Mine.pair_is | apply Mine.entry_is' | apply Mine.cons_is | apply Mine.some_is | apply Mine.bool_is) <;> walk_at "nf") | (apply Mine.type_is; (conv => arg 1; whnf); exact Mine.Is.same _) | (apply Mine.blt_is; (try (conv => arg 1; simp [← PySem.W.SZ.e8921853674693946858x22, ← PySem.W.ZFast.ze16320311567567194475, toString, PySem.Str.toString, Nat.isValidChar])); exact Mine.Is.same _) | ((first | apply Mine.seq_is | apply Mine.dict_is | apply Mine.fields_is | apply Mine.cell_is | apply Mine.clsd_is) <;> walk_at "nf") | first | exact Mine.Is.back _ | exact Mine.Is.same _))
section
noncomputable def isTab (o : Obj) : Bool := match o.cls, o.data with
  | .none, .fields _ => true
  | _, _ => false
noncomputable def KNo (P : Params) (h : Heap) : Prop := ∀ a o, (hx.heap_1 P).lookup a = some o → isTab o = false → h.get? a = some o
noncomputable abbrev xA : Around := { handled := none, depth := 750, frames := none, guards := none, units := 2000 }
/-- a function of the ledger -/
inductive IsFn (D : List (Addr × Obj)) (f : Nat) : Prop
  | mk (d : Option Addr) (a : Data) (sl : Array (Option Value)) (h : (f + 121, (⟨.type "function", d, a, sl⟩ : Obj)) ∈ D) : IsFn D f
theorem IsFn.sub {D D' : List (Addr × Obj)} {f : Nat} (x : IsFn D f) (h : ∀ p ∈ D, p ∈ D') : IsFn D' f := match x with | .mk d a sl q => .mk d a sl (h _ q)
theorem IsFn.in3 {D R base : List (Addr × Obj)} {x : Addr × Obj} {f : Nat} (h : IsFn D f) : IsFn ((x :: (D ++ R)) ++ base) f := h.sub fun _ hq => List.mem_append_left _ (.tail _ (List.mem_append_left _ hq))
theorem xc_type {w : World} {h₀ : Heap} {L : Addr} {m : Str → Option Value} {base : List (Addr × Obj)} {h : Heap} {gs : Array GenState} {d : Drawn} {tk : Nat} {os : OsState} {R : Result → Shared → Prop} (F : Fr h₀ L h m) (N : News h₀ L h base) (hb0 : 121 ≤ h₀.objs.size) (KN : KNo w.params h₀)
   (ns bT sl sa f0 f1 f2 f3 f4 f5 : Nat) (mo : Str) (t0 t1 t2 t3 t4 u0 u1 u2 u3 u4 u5 u6 u7 u8 u9 u10 u11 : Tok) (q0 q1 q2 q3 q4 q5 q6 q7 q8 q9 q10 q11 : Int) (e0 : Nat) 
   (h1 : (ns + 121, ⟨.type "dict", none, .dict ⟨[⟨q0, .str ⟨⟨[95, 95, 109, 111, 100, 117, 108, 101, 95, 95]⟩⟩ u0, .str mo t0⟩, ⟨q1, .str ⟨⟨[95, 95, 113, 117, 97, 108, 110, 97, 109, 101, 95, 95]⟩⟩ u1, .str ⟨⟨[99, 109, 112, 95, 116, 111, 95, 107, 101, 121, 46, 60, 108, 111, 99, 97, 108, 115, 62, 46, 75]⟩⟩ t1⟩, ⟨q2, .str ⟨⟨[95, 95, 102, 105, 114, 115, 116, 108, 105, 110, 101, 110, 111, 95, 95]⟩⟩ u2, .int 17 t2⟩, ⟨q3, .str ⟨⟨[95, 95, 115, 108, 111, 116, 115, 95, 95]⟩⟩ u3, .ref (sl + 121)⟩, ⟨q4, .str ⟨⟨[95, 95, 105, 110, 105, 116, 95, 95]⟩⟩ u4, .ref (f0 + 121)⟩, ⟨q5, .str ⟨⟨[95, 95, 108, 116, 95, 95]⟩⟩ u5, .ref (f1 + 121)⟩, ⟨q6, .str ⟨⟨[95, 95, 103, 116, 95, 95]⟩⟩ u6, .ref (f2 + 121)⟩, ⟨q7, .str ⟨⟨[95, 95, 101, 113, 95, 95]⟩⟩ u7, .ref (f3 + 121)⟩, ⟨q8, .str ⟨⟨[95, 95, 108, 101, 95, 95]⟩⟩ u8, .ref (f4 + 121)⟩, ⟨q9, .str ⟨⟨[95, 95, 103, 101, 95, 95]⟩⟩ u9, .ref (f5 + 121)⟩, ⟨q10, .str ⟨⟨[95, 95, 104, 97, 115, 104, 95, 95]⟩⟩ u10, .none⟩, ⟨q11, .str ⟨⟨[95, 95, 115, 116, 97, 116, 105, 99, 95, 97, 116, 116, 114, 105, 98, 117, 116, 101, 115, 95, 95]⟩⟩ u11, .ref (sa + 121)⟩]⟩ 12, ⟨[]⟩⟩) ∈ base)
   (h2 : (bT + 121, ⟨.type "tuple", none, .seq ⟨[.type "object"]⟩ 0, ⟨[]⟩⟩) ∈ base)
   (h3 : (sl + 121, ⟨.type "list", none, .seq ⟨[.str ⟨⟨[111, 98, 106]⟩⟩ t3]⟩ 0, ⟨[]⟩⟩) ∈ base)
   (h4 : (sa + 121, ⟨.type "tuple", none, .seq ⟨[.str ⟨⟨[111, 98, 106]⟩⟩ t4]⟩ 0, ⟨[]⟩⟩) ∈ base)
   (g0 : IsFn base f0) (g1 : IsFn base f1) (g2 : IsFn base f2) (g3 : IsFn base f3) (g4 : IsFn base f4) (g5 : IsFn base f5)
   (hret : ∀ (K dK md : Nat) (u12 u13 u14 : Tok) (q12 q13 k0 : Int) own h' tk', Xl h₀ L h' m base own → k0 = 0 → (K + 121, ⟨.type "type", none, .cls ⟨⟨⟨[75]⟩⟩, [.type "object"], [.ref (K + 121), .type "object"], dK + 121, ⟨⟨[99, 109, 112, 95, 116, 111, 95, 107, 101, 121, 46, 60, 108, 111, 99, 97, 108, 115, 62, 46, 75]⟩⟩, false, [⟨⟨[111, 98, 106]⟩⟩], [], false, none, false⟩, ⟨[some (.ref (bT + 121)), none, some (.str ⟨⟨[75]⟩⟩ e0), some (.str ⟨⟨[99, 109, 112, 95, 116, 111, 95, 107, 101, 121, 46, 60, 108, 111, 99, 97, 108, 115, 62, 46, 75]⟩⟩ t1), some (.builtin "object.__new__"), some (.bool false)]⟩⟩) ∈ own → (dK + 121, ⟨.type "dict", none, .dict ⟨[⟨q0, .str ⟨⟨[95, 95, 109, 111, 100, 117, 108, 101, 95, 95]⟩⟩ u0, .str mo t0⟩, ⟨q2, .str ⟨⟨[95, 95, 102, 105, 114, 115, 116, 108, 105, 110, 101, 110, 111, 95, 95]⟩⟩ u2, .int 17 t2⟩, ⟨q3, .str ⟨⟨[95, 95, 115, 108, 111, 116, 115, 95, 95]⟩⟩ u3, .ref (sl + 121)⟩, ⟨q4, .str ⟨⟨[95, 95, 105, 110, 105, 116, 95, 95]⟩⟩ u4, .ref (f0 + 121)⟩, ⟨q5, .str ⟨⟨[95, 95, 108, 116, 95, 95]⟩⟩ u5, .ref (f1 + 121)⟩, ⟨q6, .str ⟨⟨[95, 95, 103, 116, 95, 95]⟩⟩ u6, .ref (f2 + 121)⟩, ⟨q7, .str ⟨⟨[95, 95, 101, 113, 95, 95]⟩⟩ u7, .ref (f3 + 121)⟩, ⟨q8, .str ⟨⟨[95, 95, 108, 101, 95, 95]⟩⟩ u8, .ref (f4 + 121)⟩, ⟨q9, .str ⟨⟨[95, 95, 103, 101, 95, 95]⟩⟩ u9, .ref (f5 + 121)⟩, ⟨q10, .str ⟨⟨[95, 95, 104, 97, 115, 104, 95, 95]⟩⟩ u10, .none⟩, ⟨q11, .str ⟨⟨[95, 95, 115, 116, 97, 116, 105, 99, 95, 97, 116, 116, 114, 105, 98, 117, 116, 101, 115, 95, 95]⟩⟩ u11, .ref (sa + 121)⟩, ⟨q12, .str ⟨⟨[111, 98, 106]⟩⟩ u12, .ref (md + 121)⟩, ⟨q13, .str ⟨⟨[95, 95, 100, 111, 99, 95, 95]⟩⟩ u13, .none⟩]⟩ 3, ⟨[]⟩⟩) ∈ own → (md + 121, ⟨.type "member_descriptor", none, .fields ⟨[.str ⟨⟨[111, 98, 106]⟩⟩ u14, .ref (K + 121), .builtin "proto.slot", .builtin "proto.slot#set", .int k0 0]⟩, ⟨[]⟩⟩) ∈ own → R (.ok (.ret (.ref (K + 121)))) ⟨h', gs, d, tk', os⟩) :
   codeAny (model Challenge.rw_il0109_01.row.prog w) xA (.call (.type "type") ⟨[.str ⟨⟨[75]⟩⟩ e0, .ref (bT + 121), .ref (ns + 121)], []⟩) R ⟨h, gs, d, tk, os⟩ := by
  obtain ⟨d0, a0, s0, g0⟩ := g0; obtain ⟨d1, a1, s1, g1⟩ := g1; obtain ⟨d2, a2, s2, g2⟩ := g2; obtain ⟨d3, a3, s3, g3⟩ := g3; obtain ⟨d4, a4, s4, g4⟩ := g4; obtain ⟨d5, a5, s5, g5⟩ := g5
  have X := Xl.start F N hb0
  clear N
  refine g_code ?_
  repeat (((conv => arg 5; whnf); first | (first
  | refine Mine.g_rule ?_ | refine Mine.g_at ?_ | refine Mine.g_point ?_ | refine Mine.g_ask ?_ | (refine Mine.g_fresh ?_; intro _)
  | ((with_reducible show Mine.G _ _ _ _ (Sem.load _ _ _) _ _); (conv => arg 5; arg 1; whnf); (try (conv => arg 5; arg 1; rw [Mine.succ_back])); refine' Mine.g_load (by first | ((first | (refine' Mine.Xl.get (by assumption) (by first | (((repeat' first | exact Mine.At.head | refine' Mine.At.tail ?_ | refine' Mine.At.right ?_)); done) | fail)) | exact Mine.Xl.old (by assumption) (by assumption) | exact Mine.Xl.getB (by assumption) (Mine.updF_in (by assumption)) | exact Mine.Xl.getB (by assumption) (by assumption) | exact Mine.Xl.old (by assumption) ((by assumption : Mine.KNo _ _) _ _ rfl rfl)); done) | fail) ?_)
  | ((with_reducible show Mine.G _ _ _ _ (Sem.alloc _ _) _ _); (rename Mine.Xl _ _ _ _ _ _ => kX); refine' Mine.g_alloc kX (by first | (((apply Mine.obj_is <;> walk_at "nf")); done) | fail) (by rfl) ?_; clear kX; intro _ _ _)
  | ((with_reducible show Mine.G _ _ _ _ (Sem.update _ _ _ _) _ _); (conv => arg 5; arg 1; whnf); (try (conv => arg 5; arg 1; rw [Mine.succ_back])); (rename Mine.Xl _ _ _ _ _ _ => kX); (first | (refine' Mine.g_upd kX (by first | (((repeat' first | exact Mine.At.head | refine' Mine.At.tail ?_ | refine' Mine.At.right ?_)); done) | fail) (by first | (((apply Mine.obj_is <;> walk_at "nf")); done) | fail) (by rfl) ?_) | (refine' Mine.g_updB kX (by assumption) (by first | (((apply Mine.obj_is <;> walk_at "nf")); done) | fail) (by rfl) ?_)); clear kX; intro _ kX'; (try (with_reducible show UpdF _ _ _ _ → _); (rename UpdF _ _ _ _ => kU); clear kU; intro _); (try dsimp only at kX'); revert kX'; intro _)
  | ((with_reducible show Mine.G _ _ _ _ (Sem.pure _) _ _); (conv => arg 5; arg 1; whnf); first
      | ((with_reducible show Mine.G _ _ _ _ (Sem.pure (PySem.Fin.done _)) _ _); refine' Mine.g_done' (by first | ((((conv => arg 1; whnf); first | (apply Mine.ret_is <;> walk_at "nf") | exact Mine.Is.same _)); done) | fail) ?_; (try refine Mine.g_ret ?_))
      | (refine' Mine.g_again' (by first | ((((conv => arg 1; whnf); first | (refine' Mine.cblt_is (by first | ((((try (conv => arg 1; simp [← PySem.W.SZ.e8921853674693946858x22, ← PySem.W.ZFast.ze16320311567567194475, toString, PySem.Str.toString, Nat.isValidChar])); exact Mine.Is.same _)); done) | fail) (by first | ((walk_at "nf"); done) | fail)) | (apply Mine.ccall_is <;> walk_at "nf") | (apply Mine.cfunc_is <;> walk_at "nf") | (apply Mine.cbody_is <;> walk_at "nf") | exact Mine.Is.same _)); done) | fail) (by first | ((first | exact Code.quiet_builtin _ (by decide +kernel) | rfl); done) | fail) ?_; (first | ((with_reducible show codeAny _ _ (Code.builtin "super.__getattribute__" _) _ _); refine Mine.g_codeZ ?_) | refine Mine.g_code ?_)))
  | ((with_reducible show Mine.G _ _ _ _ (Sem.call _ _ _ _ _) _ _); (conv => arg 5; arg 2; whnf); refine' Mine.g_call' (by first | ((((conv => arg 1; whnf); first | (refine' Mine.cblt_is (by first | ((((try (conv => arg 1; simp [← PySem.W.SZ.e8921853674693946858x22, ← PySem.W.ZFast.ze16320311567567194475, toString, PySem.Str.toString, Nat.isValidChar])); exact Mine.Is.same _)); done) | fail) (by first | ((walk_at "nf"); done) | fail)) | (apply Mine.ccall_is <;> walk_at "nf") | (apply Mine.cfunc_is <;> walk_at "nf") | (apply Mine.cbody_is <;> walk_at "nf") | exact Mine.Is.same _)); done) | fail) (by first | ((first | (intro h; cases h) | simp [byPass] | decide); done) | fail) ?_; (first | ((with_reducible show codeAny _ _ (Code.builtin "super.__getattribute__" _) _ _); refine Mine.g_codeZ ?_) | refine Mine.g_code ?_))
  | ((with_reducible show Mine.G _ _ _ _ (Sem.stack _) _ _); refine Mine.g_stack ?_; intro _ _ l'; (conv => arg 5; whnf); (try rw [Mine.near_eq l' rfl]); (try rw [Mine.over_eq l' rfl]); (try rw [Mine.warm_eq l' rfl]); clear l')) | (first | ((conv => arg 5; pattern (List.drop 1 (List.dropWhile _ _)); tactic => exact Mine.drop_head _ _); (conv => arg 5; pattern (@BEq.beq Value (@instBEqOfDecidableEq Value PySem.W.ZFast.zw7966671052430208091) _ _); tactic => exact Mine.zeq _)) | ((conv => enter [5,1,1,1,1,1,1,1]; simp only [Mine.bindp, Mine.bindp']); (conv => enter [5,1,1,1,1,1,1,1]; pattern (@List.contains Value (@instBEqOfDecidableEq Value PySem.W.XFast.xw7966671052430208091) (Value.ref _ :: _) _); tactic => exact Mine.cont_head _ _)) | ((conv => enter [5,1,1,1,1,1,1]; simp only [Mine.bindp, Mine.bindp']); (conv => enter [5,1,1,1,1,1,1]; pattern (@List.contains Value (@instBEqOfDecidableEq Value PySem.W.XFast.xw7966671052430208091) (Value.ref _ :: _) _); tactic => exact Mine.cont_head _ _)) | ((conv => enter [5,1,1,1,1,1]; simp only [Mine.bindp, Mine.bindp']); (conv => enter [5,1,1,1,1,1]; pattern (@List.contains Value (@instBEqOfDecidableEq Value PySem.W.XFast.xw7966671052430208091) (Value.ref _ :: _) _); tactic => exact Mine.cont_head _ _)) | ((conv => enter [5,1,1,1,1]; simp only [Mine.bindp, Mine.bindp']); (conv => enter [5,1,1,1,1]; pattern (@List.contains Value (@instBEqOfDecidableEq Value PySem.W.XFast.xw7966671052430208091) (Value.ref _ :: _) _); tactic => exact Mine.cont_head _ _)) | ((conv => enter [5,1,1,1]; simp only [Mine.bindp, Mine.bindp']); (conv => enter [5,1,1,1]; pattern (@List.contains Value (@instBEqOfDecidableEq Value PySem.W.XFast.xw7966671052430208091) (Value.ref _ :: _) _); tactic => exact Mine.cont_head _ _)) | ((conv => enter [5,1,1]; simp only [Mine.bindp, Mine.bindp']); (conv => enter [5,1,1]; pattern (@List.contains Value (@instBEqOfDecidableEq Value PySem.W.XFast.xw7966671052430208091) (Value.ref _ :: _) _); tactic => exact Mine.cont_head _ _)) | ((conv => enter [5,1]; simp only [Mine.bindp, Mine.bindp']); (conv => enter [5,1]; pattern (@List.contains Value (@instBEqOfDecidableEq Value PySem.W.XFast.xw7966671052430208091) (Value.ref _ :: _) _); tactic => exact Mine.cont_head _ _)) | ((conv => enter [5]; simp only [Mine.bindp, Mine.bindp']); (conv => enter [5]; pattern (@List.contains Value (@instBEqOfDecidableEq Value PySem.W.XFast.xw7966671052430208091) (Value.ref _ :: _) _); tactic => exact Mine.cont_head _ _)) | (conv => arg 5; pattern (List.filter _ (Value.ref _ :: _)); tactic => exact Mine.filt_obj _) | (rw [← PySem.W.XFast.xe7104952167334194321]) | (rw [Mine.chk_typenew]) | ((conv => arg 5; pattern (PySem.W.XFast.xw6838149247815620303 _); arg 1; whnf); (rw [Mine.madeBy_type])) | (conv => arg 5; pattern (PySem.Builtin.List.listSameRef _ _); tactic => first | exact Mine.same_on _ | exact Mine.same_off (by (first | (refine' Mine.Xl.neB (by assumption) (by first | (((repeat' first | exact Mine.At.head | refine' Mine.At.tail ?_ | refine' Mine.At.right ?_)); done) | fail) (by assumption)) | (refine' Mine.Xl.neB' (by assumption) (by first | (((repeat' first | exact Mine.At.head | refine' Mine.At.tail ?_ | refine' Mine.At.right ?_)); done) | fail) (by assumption)) | (refine' Mine.Xl.neN (by assumption) (by first | (((repeat' first | refine' Mine.Two.head ?_ | refine' Mine.Two.tail ?_ | exact Mine.At.head | refine' Mine.At.tail ?_ | refine' Mine.At.right ?_)); done) | fail)) | (refine' Mine.Xl.neN' (by assumption) (by first | (((repeat' first | refine' Mine.Two.head ?_ | refine' Mine.Two.tail ?_ | exact Mine.At.head | refine' Mine.At.tail ?_ | refine' Mine.At.right ?_)); done) | fail)))))) | ((with_unfolding_all conv => arg 5; whnf); (first
  | refine Mine.g_rule ?_ | refine Mine.g_at ?_ | refine Mine.g_point ?_ | refine Mine.g_ask ?_ | (refine Mine.g_fresh ?_; intro _)
  | ((with_reducible show Mine.G _ _ _ _ (Sem.load _ _ _) _ _); (conv => arg 5; arg 1; whnf); (try (conv => arg 5; arg 1; rw [Mine.succ_back])); refine' Mine.g_load (by first | ((first | (refine' Mine.Xl.get (by assumption) (by first | (((repeat' first | exact Mine.At.head | refine' Mine.At.tail ?_ | refine' Mine.At.right ?_)); done) | fail)) | exact Mine.Xl.old (by assumption) (by assumption) | exact Mine.Xl.getB (by assumption) (Mine.updF_in (by assumption)) | exact Mine.Xl.getB (by assumption) (by assumption) | exact Mine.Xl.old (by assumption) ((by assumption : Mine.KNo _ _) _ _ rfl rfl)); done) | fail) ?_)
  | ((with_reducible show Mine.G _ _ _ _ (Sem.alloc _ _) _ _); (rename Mine.Xl _ _ _ _ _ _ => kX); refine' Mine.g_alloc kX (by first | (((apply Mine.obj_is <;> walk_at "nf")); done) | fail) (by rfl) ?_; clear kX; intro _ _ _)
  | ((with_reducible show Mine.G _ _ _ _ (Sem.update _ _ _ _) _ _); (conv => arg 5; arg 1; whnf); (try (conv => arg 5; arg 1; rw [Mine.succ_back])); (rename Mine.Xl _ _ _ _ _ _ => kX); (first | (refine' Mine.g_upd kX (by first | (((repeat' first | exact Mine.At.head | refine' Mine.At.tail ?_ | refine' Mine.At.right ?_)); done) | fail) (by first | (((apply Mine.obj_is <;> walk_at "nf")); done) | fail) (by rfl) ?_) | (refine' Mine.g_updB kX (by assumption) (by first | (((apply Mine.obj_is <;> walk_at "nf")); done) | fail) (by rfl) ?_)); clear kX; intro _ kX'; (try (with_reducible show UpdF _ _ _ _ → _); (rename UpdF _ _ _ _ => kU); clear kU; intro _); (try dsimp only at kX'); revert kX'; intro _)
  | ((with_reducible show Mine.G _ _ _ _ (Sem.pure _) _ _); (conv => arg 5; arg 1; whnf); first
      | ((with_reducible show Mine.G _ _ _ _ (Sem.pure (PySem.Fin.done _)) _ _); refine' Mine.g_done' (by first | ((((conv => arg 1; whnf); first | (apply Mine.ret_is <;> walk_at "nf") | exact Mine.Is.same _)); done) | fail) ?_; (try refine Mine.g_ret ?_))
      | (refine' Mine.g_again' (by first | ((((conv => arg 1; whnf); first | (refine' Mine.cblt_is (by first | ((((try (conv => arg 1; simp [← PySem.W.SZ.e8921853674693946858x22, ← PySem.W.ZFast.ze16320311567567194475, toString, PySem.Str.toString, Nat.isValidChar])); exact Mine.Is.same _)); done) | fail) (by first | ((walk_at "nf"); done) | fail)) | (apply Mine.ccall_is <;> walk_at "nf") | (apply Mine.cfunc_is <;> walk_at "nf") | (apply Mine.cbody_is <;> walk_at "nf") | exact Mine.Is.same _)); done) | fail) (by first | ((first | exact Code.quiet_builtin _ (by decide +kernel) | rfl); done) | fail) ?_; (first | ((with_reducible show codeAny _ _ (Code.builtin "super.__getattribute__" _) _ _); refine Mine.g_codeZ ?_) | refine Mine.g_code ?_)))
  | ((with_reducible show Mine.G _ _ _ _ (Sem.call _ _ _ _ _) _ _); (conv => arg 5; arg 2; whnf); refine' Mine.g_call' (by first | ((((conv => arg 1; whnf); first | (refine' Mine.cblt_is (by first | ((((try (conv => arg 1; simp [← PySem.W.SZ.e8921853674693946858x22, ← PySem.W.ZFast.ze16320311567567194475, toString, PySem.Str.toString, Nat.isValidChar])); exact Mine.Is.same _)); done) | fail) (by first | ((walk_at "nf"); done) | fail)) | (apply Mine.ccall_is <;> walk_at "nf") | (apply Mine.cfunc_is <;> walk_at "nf") | (apply Mine.cbody_is <;> walk_at "nf") | exact Mine.Is.same _)); done) | fail) (by first | ((first | (intro h; cases h) | simp [byPass] | decide); done) | fail) ?_; (first | ((with_reducible show codeAny _ _ (Code.builtin "super.__getattribute__" _) _ _); refine Mine.g_codeZ ?_) | refine Mine.g_code ?_))
  | ((with_reducible show Mine.G _ _ _ _ (Sem.stack _) _ _); refine Mine.g_stack ?_; intro _ _ l'; (conv => arg 5; whnf); (try rw [Mine.near_eq l' rfl]); (try rw [Mine.over_eq l' rfl]); (try rw [Mine.warm_eq l' rfl]); clear l')))))
  rename Xl _ _ _ _ _ _ => kX
  refine' hret _ _ _ _ _ _ _ _ _ _ _ _ kX ?zk ?za ?zb ?zc
  case za => with_unfolding_all walk_at "mem"
  case zb => with_unfolding_all walk_at "mem"
  case zc => with_unfolding_all walk_at "mem"
  case zk => with_unfolding_all rfl
end
section
noncomputable abbrev xB0 : Around := { handled := none, depth := 550, frames := none, guards := none, units := 1000 }
theorem slot_fset : Slot "function" "__setattr__" "object.__setattr__" :=
  .of (owner := "object") (n := "__setattr__") (by rw [typeLookup_type, builtinLookup_eq_fast]; kernel_rfl) (by decide +kernel) (by decide +kernel) (by decide +kernel)
    (by first | exact .inl (by decide +kernel) | exact .inr (by decide +kernel)) (by rw [isSubtype_type]; kernel_rfl)
theorem slot_fga : Slot "function" "__getattribute__" "object.__getattribute__" :=
  .of (owner := "object") (n := "__getattribute__") (by rw [typeLookup_type, builtinLookup_eq_fast]; kernel_rfl) (by decide +kernel) (by decide +kernel) (by decide +kernel)
    (by first | exact .inl (by decide +kernel) | exact .inr (by decide +kernel)) (by rw [isSubtype_type]; kernel_rfl)
theorem fn_noga : typeLookup (.type "function") "__getattr__" = pure none := by rw [typeLookup_type, builtinLookup_eq_fast]; kernel_rfl
theorem fn_noread : typeLookup (.type "function") "read" = pure none := by rw [typeLookup_type, builtinLookup_eq_fast]; kernel_rfl
theorem KNo.keeps {P : Params} {h h' : Heap} (x : KNo P h) (k : ∀ b o, h.get? b = some o → h'.get? b = some o) : KNo P h' := fun a o e t => k _ _ (x a o e t)
theorem KNo.big {P : Params} {h : Heap} (x : KNo P h) : 121 ≤ h.objs.size := Heap.lt_size (x 120 _ (by rfl) (by rfl))
section
variable {w : World} {h₀ : Heap} {L : Addr} {m : Str → Option Value} {base : List (Addr × Obj)} {g : Obj → List (Addr × Obj)} {s : Shared} {E : Value → Shared → Prop} {A : Around}
theorem fn_set {Q : Unit → Shared → Prop} (F : Fr h₀ L s.heap m) (N : News h₀ L s.heap base) (hb0 : 121 ≤ h₀.objs.size) (KN : KNo w.params h₀) (hA : A.handled = none) (hd : A.depth ≤ 450) (hu : A.units ≤ 900) (x : Addr) (v : Value) (fd : FuncData)
    (U : UpdF x ⟨.type "function", none, .func fd, ⟨[]⟩⟩ base g)
    (hret : ∀ (d : Nat) (q : Int) (t : Tok) (n : Nat) h' tk', Xl h₀ L h' m (g ⟨.type "function", some (d + 121), .func fd, ⟨[]⟩⟩) [(d + 121, ⟨.type "dict", none, .dict ⟨[⟨q, .str (Str.ofString "read") t, v⟩]⟩ n, ⟨[]⟩⟩)] → Q () { s with heap := h', toks := tk' }) :
    wpAny (model Challenge.rw_il0109_01.row.prog w) A (setAttr (.ref x) (Str.ofString "read") v) Q E s := by
  have hx := (N _ (updF_in U)).1
  have hT : s.TypeIs (.ref x) "function" := ⟨_, hx, rfl⟩
  refine wpAny_bind (wpAny_mkText (wpAny_bind (wpAny_bind (wpAny_bind (wpAny_typeOf (M := model Challenge.rw_il0109_01.row.prog w) (s := { s with toks := s.toks + 1 }) hT ?_)))))
  rw [slot_fset.lookup]
  refine wpAny_pure (wpAny_holding ?_)
  rw [slot_fset.bind]
  have key : codeAny (model Challenge.rw_il0109_01.row.prog w) xB0 (.call (.builtin "object.__setattr__") ⟨[.ref x, .str (Str.ofString "read") s.toks, v], []⟩) (fun r s' => match r with | .ok (.ret _) => Q () s' | .ok _ => False | .error e => E e s') { s with toks := s.toks + 1 } := by
    clear hT hx
    have X := Xl.start F N hb0
    clear N
    obtain ⟨h, gs, d, tk, os⟩ := s
    dsimp only at X hret
    refine g_code ?_
    repeat (((conv => arg 5; whnf); first | (first
  | refine Mine.g_rule ?_ | refine Mine.g_at ?_ | refine Mine.g_point ?_ | refine Mine.g_ask ?_ | (refine Mine.g_fresh ?_; intro _)
  | ((with_reducible show Mine.G _ _ _ _ (Sem.load _ _ _) _ _); (conv => arg 5; arg 1; whnf); (try (conv => arg 5; arg 1; rw [Mine.succ_back])); refine' Mine.g_load (by first | ((first | (refine' Mine.Xl.get (by assumption) (by first | (((repeat' first | exact Mine.At.head | refine' Mine.At.tail ?_ | refine' Mine.At.right ?_)); done) | fail)) | exact Mine.Xl.old (by assumption) (by assumption) | exact Mine.Xl.getB (by assumption) (Mine.updF_in (by assumption)) | exact Mine.Xl.getB (by assumption) (by assumption) | exact Mine.Xl.old (by assumption) ((by assumption : Mine.KNo _ _) _ _ rfl rfl)); done) | fail) ?_)
  | ((with_reducible show Mine.G _ _ _ _ (Sem.alloc _ _) _ _); (rename Mine.Xl _ _ _ _ _ _ => kX); refine' Mine.g_alloc kX (by first | (((apply Mine.obj_is <;> walk_at "nf")); done) | fail) (by rfl) ?_; clear kX; intro _ _ _)
  | ((with_reducible show Mine.G _ _ _ _ (Sem.update _ _ _ _) _ _); (conv => arg 5; arg 1; whnf); (try (conv => arg 5; arg 1; rw [Mine.succ_back])); (rename Mine.Xl _ _ _ _ _ _ => kX); (first | (refine' Mine.g_upd kX (by first | (((repeat' first | exact Mine.At.head | refine' Mine.At.tail ?_ | refine' Mine.At.right ?_)); done) | fail) (by first | (((apply Mine.obj_is <;> walk_at "nf")); done) | fail) (by rfl) ?_) | (refine' Mine.g_updB kX (by assumption) (by first | (((apply Mine.obj_is <;> walk_at "nf")); done) | fail) (by rfl) ?_)); clear kX; intro _ kX'; (try (with_reducible show UpdF _ _ _ _ → _); (rename UpdF _ _ _ _ => kU); clear kU; intro _); (try dsimp only at kX'); revert kX'; intro _)
  | ((with_reducible show Mine.G _ _ _ _ (Sem.pure _) _ _); (conv => arg 5; arg 1; whnf); first
      | ((with_reducible show Mine.G _ _ _ _ (Sem.pure (PySem.Fin.done _)) _ _); refine' Mine.g_done' (by first | ((((conv => arg 1; whnf); first | (apply Mine.ret_is <;> walk_at "nf") | exact Mine.Is.same _)); done) | fail) ?_; (try refine Mine.g_ret ?_))
      | (refine' Mine.g_again' (by first | ((((conv => arg 1; whnf); first | (refine' Mine.cblt_is (by first | ((((try (conv => arg 1; simp [← PySem.W.SZ.e8921853674693946858x22, ← PySem.W.ZFast.ze16320311567567194475, toString, PySem.Str.toString, Nat.isValidChar])); exact Mine.Is.same _)); done) | fail) (by first | ((walk_at "nf"); done) | fail)) | (apply Mine.ccall_is <;> walk_at "nf") | (apply Mine.cfunc_is <;> walk_at "nf") | (apply Mine.cbody_is <;> walk_at "nf") | exact Mine.Is.same _)); done) | fail) (by first | ((first | exact Code.quiet_builtin _ (by decide +kernel) | rfl); done) | fail) ?_; (first | ((with_reducible show codeAny _ _ (Code.builtin "super.__getattribute__" _) _ _); refine Mine.g_codeZ ?_) | refine Mine.g_code ?_)))
  | ((with_reducible show Mine.G _ _ _ _ (Sem.call _ _ _ _ _) _ _); (conv => arg 5; arg 2; whnf); refine' Mine.g_call' (by first | ((((conv => arg 1; whnf); first | (refine' Mine.cblt_is (by first | ((((try (conv => arg 1; simp [← PySem.W.SZ.e8921853674693946858x22, ← PySem.W.ZFast.ze16320311567567194475, toString, PySem.Str.toString, Nat.isValidChar])); exact Mine.Is.same _)); done) | fail) (by first | ((walk_at "nf"); done) | fail)) | (apply Mine.ccall_is <;> walk_at "nf") | (apply Mine.cfunc_is <;> walk_at "nf") | (apply Mine.cbody_is <;> walk_at "nf") | exact Mine.Is.same _)); done) | fail) (by first | ((first | (intro h; cases h) | simp [byPass] | decide); done) | fail) ?_; (first | ((with_reducible show codeAny _ _ (Code.builtin "super.__getattribute__" _) _ _); refine Mine.g_codeZ ?_) | refine Mine.g_code ?_))
  | ((with_reducible show Mine.G _ _ _ _ (Sem.stack _) _ _); refine Mine.g_stack ?_; intro _ _ l'; (conv => arg 5; whnf); (try rw [Mine.near_eq l' rfl]); (try rw [Mine.over_eq l' rfl]); (try rw [Mine.warm_eq l' rfl]); clear l')) | (first | ((conv => arg 5; pattern (List.drop 1 (List.dropWhile _ _)); tactic => exact Mine.drop_head _ _); (conv => arg 5; pattern (@BEq.beq Value (@instBEqOfDecidableEq Value PySem.W.ZFast.zw7966671052430208091) _ _); tactic => exact Mine.zeq _)) | ((conv => enter [5,1,1,1,1,1,1,1]; simp only [Mine.bindp, Mine.bindp']); (conv => enter [5,1,1,1,1,1,1,1]; pattern (@List.contains Value (@instBEqOfDecidableEq Value PySem.W.XFast.xw7966671052430208091) (Value.ref _ :: _) _); tactic => exact Mine.cont_head _ _)) | ((conv => enter [5,1,1,1,1,1,1]; simp only [Mine.bindp, Mine.bindp']); (conv => enter [5,1,1,1,1,1,1]; pattern (@List.contains Value (@instBEqOfDecidableEq Value PySem.W.XFast.xw7966671052430208091) (Value.ref _ :: _) _); tactic => exact Mine.cont_head _ _)) | ((conv => enter [5,1,1,1,1,1]; simp only [Mine.bindp, Mine.bindp']); (conv => enter [5,1,1,1,1,1]; pattern (@List.contains Value (@instBEqOfDecidableEq Value PySem.W.XFast.xw7966671052430208091) (Value.ref _ :: _) _); tactic => exact Mine.cont_head _ _)) | ((conv => enter [5,1,1,1,1]; simp only [Mine.bindp, Mine.bindp']); (conv => enter [5,1,1,1,1]; pattern (@List.contains Value (@instBEqOfDecidableEq Value PySem.W.XFast.xw7966671052430208091) (Value.ref _ :: _) _); tactic => exact Mine.cont_head _ _)) | ((conv => enter [5,1,1,1]; simp only [Mine.bindp, Mine.bindp']); (conv => enter [5,1,1,1]; pattern (@List.contains Value (@instBEqOfDecidableEq Value PySem.W.XFast.xw7966671052430208091) (Value.ref _ :: _) _); tactic => exact Mine.cont_head _ _)) | ((conv => enter [5,1,1]; simp only [Mine.bindp, Mine.bindp']); (conv => enter [5,1,1]; pattern (@List.contains Value (@instBEqOfDecidableEq Value PySem.W.XFast.xw7966671052430208091) (Value.ref _ :: _) _); tactic => exact Mine.cont_head _ _)) | ((conv => enter [5,1]; simp only [Mine.bindp, Mine.bindp']); (conv => enter [5,1]; pattern (@List.contains Value (@instBEqOfDecidableEq Value PySem.W.XFast.xw7966671052430208091) (Value.ref _ :: _) _); tactic => exact Mine.cont_head _ _)) | ((conv => enter [5]; simp only [Mine.bindp, Mine.bindp']); (conv => enter [5]; pattern (@List.contains Value (@instBEqOfDecidableEq Value PySem.W.XFast.xw7966671052430208091) (Value.ref _ :: _) _); tactic => exact Mine.cont_head _ _)) | (conv => arg 5; pattern (List.filter _ (Value.ref _ :: _)); tactic => exact Mine.filt_obj _) | (rw [← PySem.W.XFast.xe7104952167334194321]) | (rw [Mine.chk_typenew]) | ((conv => arg 5; pattern (PySem.W.XFast.xw6838149247815620303 _); arg 1; whnf); (rw [Mine.madeBy_type])) | (conv => arg 5; pattern (PySem.Builtin.List.listSameRef _ _); tactic => first | exact Mine.same_on _ | exact Mine.same_off (by (first | (refine' Mine.Xl.neB (by assumption) (by first | (((repeat' first | exact Mine.At.head | refine' Mine.At.tail ?_ | refine' Mine.At.right ?_)); done) | fail) (by assumption)) | (refine' Mine.Xl.neB' (by assumption) (by first | (((repeat' first | exact Mine.At.head | refine' Mine.At.tail ?_ | refine' Mine.At.right ?_)); done) | fail) (by assumption)) | (refine' Mine.Xl.neN (by assumption) (by first | (((repeat' first | refine' Mine.Two.head ?_ | refine' Mine.Two.tail ?_ | exact Mine.At.head | refine' Mine.At.tail ?_ | refine' Mine.At.right ?_)); done) | fail)) | (refine' Mine.Xl.neN' (by assumption) (by first | (((repeat' first | refine' Mine.Two.head ?_ | refine' Mine.Two.tail ?_ | exact Mine.At.head | refine' Mine.At.tail ?_ | refine' Mine.At.right ?_)); done) | fail)))))) | ((with_unfolding_all conv => arg 5; whnf); (first
  | refine Mine.g_rule ?_ | refine Mine.g_at ?_ | refine Mine.g_point ?_ | refine Mine.g_ask ?_ | (refine Mine.g_fresh ?_; intro _)
  | ((with_reducible show Mine.G _ _ _ _ (Sem.load _ _ _) _ _); (conv => arg 5; arg 1; whnf); (try (conv => arg 5; arg 1; rw [Mine.succ_back])); refine' Mine.g_load (by first | ((first | (refine' Mine.Xl.get (by assumption) (by first | (((repeat' first | exact Mine.At.head | refine' Mine.At.tail ?_ | refine' Mine.At.right ?_)); done) | fail)) | exact Mine.Xl.old (by assumption) (by assumption) | exact Mine.Xl.getB (by assumption) (Mine.updF_in (by assumption)) | exact Mine.Xl.getB (by assumption) (by assumption) | exact Mine.Xl.old (by assumption) ((by assumption : Mine.KNo _ _) _ _ rfl rfl)); done) | fail) ?_)
  | ((with_reducible show Mine.G _ _ _ _ (Sem.alloc _ _) _ _); (rename Mine.Xl _ _ _ _ _ _ => kX); refine' Mine.g_alloc kX (by first | (((apply Mine.obj_is <;> walk_at "nf")); done) | fail) (by rfl) ?_; clear kX; intro _ _ _)
  | ((with_reducible show Mine.G _ _ _ _ (Sem.update _ _ _ _) _ _); (conv => arg 5; arg 1; whnf); (try (conv => arg 5; arg 1; rw [Mine.succ_back])); (rename Mine.Xl _ _ _ _ _ _ => kX); (first | (refine' Mine.g_upd kX (by first | (((repeat' first | exact Mine.At.head | refine' Mine.At.tail ?_ | refine' Mine.At.right ?_)); done) | fail) (by first | (((apply Mine.obj_is <;> walk_at "nf")); done) | fail) (by rfl) ?_) | (refine' Mine.g_updB kX (by assumption) (by first | (((apply Mine.obj_is <;> walk_at "nf")); done) | fail) (by rfl) ?_)); clear kX; intro _ kX'; (try (with_reducible show UpdF _ _ _ _ → _); (rename UpdF _ _ _ _ => kU); clear kU; intro _); (try dsimp only at kX'); revert kX'; intro _)
  | ((with_reducible show Mine.G _ _ _ _ (Sem.pure _) _ _); (conv => arg 5; arg 1; whnf); first
      | ((with_reducible show Mine.G _ _ _ _ (Sem.pure (PySem.Fin.done _)) _ _); refine' Mine.g_done' (by first | ((((conv => arg 1; whnf); first | (apply Mine.ret_is <;> walk_at "nf") | exact Mine.Is.same _)); done) | fail) ?_; (try refine Mine.g_ret ?_))
      | (refine' Mine.g_again' (by first | ((((conv => arg 1; whnf); first | (refine' Mine.cblt_is (by first | ((((try (conv => arg 1; simp [← PySem.W.SZ.e8921853674693946858x22, ← PySem.W.ZFast.ze16320311567567194475, toString, PySem.Str.toString, Nat.isValidChar])); exact Mine.Is.same _)); done) | fail) (by first | ((walk_at "nf"); done) | fail)) | (apply Mine.ccall_is <;> walk_at "nf") | (apply Mine.cfunc_is <;> walk_at "nf") | (apply Mine.cbody_is <;> walk_at "nf") | exact Mine.Is.same _)); done) | fail) (by first | ((first | exact Code.quiet_builtin _ (by decide +kernel) | rfl); done) | fail) ?_; (first | ((with_reducible show codeAny _ _ (Code.builtin "super.__getattribute__" _) _ _); refine Mine.g_codeZ ?_) | refine Mine.g_code ?_)))
  | ((with_reducible show Mine.G _ _ _ _ (Sem.call _ _ _ _ _) _ _); (conv => arg 5; arg 2; whnf); refine' Mine.g_call' (by first | ((((conv => arg 1; whnf); first | (refine' Mine.cblt_is (by first | ((((try (conv => arg 1; simp [← PySem.W.SZ.e8921853674693946858x22, ← PySem.W.ZFast.ze16320311567567194475, toString, PySem.Str.toString, Nat.isValidChar])); exact Mine.Is.same _)); done) | fail) (by first | ((walk_at "nf"); done) | fail)) | (apply Mine.ccall_is <;> walk_at "nf") | (apply Mine.cfunc_is <;> walk_at "nf") | (apply Mine.cbody_is <;> walk_at "nf") | exact Mine.Is.same _)); done) | fail) (by first | ((first | (intro h; cases h) | simp [byPass] | decide); done) | fail) ?_; (first | ((with_reducible show codeAny _ _ (Code.builtin "super.__getattribute__" _) _ _); refine Mine.g_codeZ ?_) | refine Mine.g_code ?_))
  | ((with_reducible show Mine.G _ _ _ _ (Sem.stack _) _ _); refine Mine.g_stack ?_; intro _ _ l'; (conv => arg 5; whnf); (try rw [Mine.near_eq l' rfl]); (try rw [Mine.over_eq l' rfl]); (try rw [Mine.warm_eq l' rfl]); clear l')))))
    rename Xl _ _ _ _ _ _ => kX
    exact hret _ _ _ _ _ _ kX
  refine wpAny_bind (wpAny_pure (wpAny_bind (wpAny_call (codeAny_mono (code_weak (A := xB0) hA (Nat.ble_eq_true_of_le (by show A.depth ≤ 550; walk_at "o")) (Nat.ble_eq_true_of_le (by show A.units ≤ 1000; walk_at "o")) rfl rfl key) fun r s' z => ?_))))
  rcases r with e | (_ | _ | _ | _) <;> first | exact z | exact wpAny_pure (wpAny_pure z)
theorem fn_set' {Q : Unit → Shared → Prop} (F : Fr h₀ L s.heap m) (N : News h₀ L s.heap base) (KN : KNo w.params h₀) (hA : A.handled = none) (hd : A.depth ≤ 450) (hu : A.units ≤ 900) {x : Addr} {v : Value} {fd : FuncData}
    (U : UpdF x ⟨.type "function", none, .func fd, ⟨[]⟩⟩ base g)
    (hret : ∀ (d : Nat) (q : Int) (t : Tok) (n : Nat) h' tk', Fr h₀ L h' m → News h₀ L h' ((d + 121, ⟨.type "dict", none, .dict ⟨[⟨q, .str (Str.ofString "read") t, v⟩]⟩ n, ⟨[]⟩⟩) :: g ⟨.type "function", some (d + 121), .func fd, ⟨[]⟩⟩) →
      (∀ q ∈ g ⟨.type "function", some (d + 121), .func fd, ⟨[]⟩⟩, q.1 < d + 121) → Q () { s with heap := h', toks := tk' }) :
    wpAny (model Challenge.rw_il0109_01.row.prog w) A (setAttr (.ref x) (Str.ofString "read") v) Q E s :=
  fn_set F N KN.big KN hA hd hu _ _ _ U fun d q t n h' tk' X => hret d q t n h' tk' X.fr X.nw fun p hp => X.low _ (.head _) p hp
theorem fn_get {Q : Value × List Value → Shared → Prop} {pl : Sem Bool} (F : Fr h₀ L s.heap m) (N : News h₀ L s.heap base) (hb0 : 121 ≤ h₀.objs.size) (KN : KNo w.params h₀) (hA : A.handled = none) (hd : A.depth ≤ 450) (hu : A.units ≤ 900) (x d : Nat) (v : Value) (fd : FuncData) (q : Int) (t : Tok) (n : Nat)
    (hf : (x, ⟨.type "function", some (d + 121), .func fd, ⟨[]⟩⟩) ∈ base) (hdx : (d + 121, ⟨.type "dict", none, .dict ⟨[⟨q, .str (Str.ofString "read") t, v⟩]⟩ n, ⟨[]⟩⟩) ∈ base) (hv : handedIn v = true)
    (hret : ∀ h' tk', Fr h₀ L h' m → News h₀ L h' base → Q (v, []) { s with heap := h', toks := tk' }) :
    wpAny (model Challenge.rw_il0109_01.row.prog w) A (getMethod (.ref x) (Str.ofString "read") pl) Q E s := by
  have hx := (N _ hf).1
  have hT : s.TypeIs (.ref x) "function" := ⟨_, hx, rfl⟩
  have hcan := PySem.F.canon_object_ga
  unfold getMethod specialOf
  refine wpAny_bind (wpAny_bind (wpAny_typeOf hT ?_))
  rw [slot_fga.lookup]
  refine wpAny_pure ?_
  dsimp only
  rw [hcan, if_neg (by decide)]
  refine wpAny_bind (wpAny_bind (wpAny_typeOf hT ?_))
  rw [fn_noga]
  refine wpAny_pure ?_
  refine wpAny_bind (wpAny_bind (wpAny_typeOf hT ?_))
  rw [fn_noread]
  refine wpAny_pure ?_
  refine wpAny_bind (wpAny_bind (wpAny_mkText (wpAny_holding ?_)))
  refine wpAny_bind (wpAny_typeOf (M := model Challenge.rw_il0109_01.row.prog w) (s := { s with toks := s.toks + 1 }) hT ?_)
  rw [slot_fga.lookup]
  refine wpAny_bind (wpAny_pure ?_)
  show wpAny _ A (getAttrByItsOwn _ _ _ _ true false) _ _ _
  unfold getAttrByItsOwn
  refine wpAny_bind (m := hookBefore _) (wpAny_pure ?_)
  refine wpAny_bind (wpAny_attempt (wpAny_holding ?_))
  show wpAny _ A (boundAndCalled _ _ _) _ _ _
  unfold boundAndCalled
  rw [slot_fga.bind]
  refine wpAny_bind (wpAny_pure ?_)
  have key : codeAny (model Challenge.rw_il0109_01.row.prog w) xB0 (.call (.builtin "object.__getattribute__") ⟨[.ref x, .str (Str.ofString "read") s.toks], []⟩) (fun r s' => r = .ok (.ret v) ∧ ∃ h' tk', Fr h₀ L h' m ∧ News h₀ L h' base ∧ s' = { s with heap := h', toks := tk' }) { s with toks := s.toks + 1 } := by
    clear hT hx
    have X := Xl.start F N hb0
    clear N
    obtain ⟨h, gs, d, tk, os⟩ := s
    dsimp only at X hret
    refine g_code ?_
    repeat (((conv => arg 5; whnf); first | (first
  | refine Mine.g_rule ?_ | refine Mine.g_at ?_ | refine Mine.g_point ?_ | refine Mine.g_ask ?_ | (refine Mine.g_fresh ?_; intro _)
  | ((with_reducible show Mine.G _ _ _ _ (Sem.load _ _ _) _ _); (conv => arg 5; arg 1; whnf); (try (conv => arg 5; arg 1; rw [Mine.succ_back])); refine' Mine.g_load (by first | ((first | (refine' Mine.Xl.get (by assumption) (by first | (((repeat' first | exact Mine.At.head | refine' Mine.At.tail ?_ | refine' Mine.At.right ?_)); done) | fail)) | exact Mine.Xl.old (by assumption) (by assumption) | exact Mine.Xl.getB (by assumption) (Mine.updF_in (by assumption)) | exact Mine.Xl.getB (by assumption) (by assumption) | exact Mine.Xl.old (by assumption) ((by assumption : Mine.KNo _ _) _ _ rfl rfl)); done) | fail) ?_)
  | ((with_reducible show Mine.G _ _ _ _ (Sem.alloc _ _) _ _); (rename Mine.Xl _ _ _ _ _ _ => kX); refine' Mine.g_alloc kX (by first | (((apply Mine.obj_is <;> walk_at "nf")); done) | fail) (by rfl) ?_; clear kX; intro _ _ _)
  | ((with_reducible show Mine.G _ _ _ _ (Sem.update _ _ _ _) _ _); (conv => arg 5; arg 1; whnf); (try (conv => arg 5; arg 1; rw [Mine.succ_back])); (rename Mine.Xl _ _ _ _ _ _ => kX); (first | (refine' Mine.g_upd kX (by first | (((repeat' first | exact Mine.At.head | refine' Mine.At.tail ?_ | refine' Mine.At.right ?_)); done) | fail) (by first | (((apply Mine.obj_is <;> walk_at "nf")); done) | fail) (by rfl) ?_) | (refine' Mine.g_updB kX (by assumption) (by first | (((apply Mine.obj_is <;> walk_at "nf")); done) | fail) (by rfl) ?_)); clear kX; intro _ kX'; (try (with_reducible show UpdF _ _ _ _ → _); (rename UpdF _ _ _ _ => kU); clear kU; intro _); (try dsimp only at kX'); revert kX'; intro _)
  | ((with_reducible show Mine.G _ _ _ _ (Sem.pure _) _ _); (conv => arg 5; arg 1; whnf); first
      | ((with_reducible show Mine.G _ _ _ _ (Sem.pure (PySem.Fin.done _)) _ _); refine' Mine.g_done' (by first | ((((conv => arg 1; whnf); first | (apply Mine.ret_is <;> walk_at "nf") | exact Mine.Is.same _)); done) | fail) ?_; (try refine Mine.g_ret ?_))
      | (refine' Mine.g_again' (by first | ((((conv => arg 1; whnf); first | (refine' Mine.cblt_is (by first | ((((try (conv => arg 1; simp [← PySem.W.SZ.e8921853674693946858x22, ← PySem.W.ZFast.ze16320311567567194475, toString, PySem.Str.toString, Nat.isValidChar])); exact Mine.Is.same _)); done) | fail) (by first | ((walk_at "nf"); done) | fail)) | (apply Mine.ccall_is <;> walk_at "nf") | (apply Mine.cfunc_is <;> walk_at "nf") | (apply Mine.cbody_is <;> walk_at "nf") | exact Mine.Is.same _)); done) | fail) (by first | ((first | exact Code.quiet_builtin _ (by decide +kernel) | rfl); done) | fail) ?_; (first | ((with_reducible show codeAny _ _ (Code.builtin "super.__getattribute__" _) _ _); refine Mine.g_codeZ ?_) | refine Mine.g_code ?_)))
  | ((with_reducible show Mine.G _ _ _ _ (Sem.call _ _ _ _ _) _ _); (conv => arg 5; arg 2; whnf); refine' Mine.g_call' (by first | ((((conv => arg 1; whnf); first | (refine' Mine.cblt_is (by first | ((((try (conv => arg 1; simp [← PySem.W.SZ.e8921853674693946858x22, ← PySem.W.ZFast.ze16320311567567194475, toString, PySem.Str.toString, Nat.isValidChar])); exact Mine.Is.same _)); done) | fail) (by first | ((walk_at "nf"); done) | fail)) | (apply Mine.ccall_is <;> walk_at "nf") | (apply Mine.cfunc_is <;> walk_at "nf") | (apply Mine.cbody_is <;> walk_at "nf") | exact Mine.Is.same _)); done) | fail) (by first | ((first | (intro h; cases h) | simp [byPass] | decide); done) | fail) ?_; (first | ((with_reducible show codeAny _ _ (Code.builtin "super.__getattribute__" _) _ _); refine Mine.g_codeZ ?_) | refine Mine.g_code ?_))
  | ((with_reducible show Mine.G _ _ _ _ (Sem.stack _) _ _); refine Mine.g_stack ?_; intro _ _ l'; (conv => arg 5; whnf); (try rw [Mine.near_eq l' rfl]); (try rw [Mine.over_eq l' rfl]); (try rw [Mine.warm_eq l' rfl]); clear l')) | (first | ((conv => arg 5; pattern (List.drop 1 (List.dropWhile _ _)); tactic => exact Mine.drop_head _ _); (conv => arg 5; pattern (@BEq.beq Value (@instBEqOfDecidableEq Value PySem.W.ZFast.zw7966671052430208091) _ _); tactic => exact Mine.zeq _)) | ((conv => enter [5,1,1,1,1,1,1,1]; simp only [Mine.bindp, Mine.bindp']); (conv => enter [5,1,1,1,1,1,1,1]; pattern (@List.contains Value (@instBEqOfDecidableEq Value PySem.W.XFast.xw7966671052430208091) (Value.ref _ :: _) _); tactic => exact Mine.cont_head _ _)) | ((conv => enter [5,1,1,1,1,1,1]; simp only [Mine.bindp, Mine.bindp']); (conv => enter [5,1,1,1,1,1,1]; pattern (@List.contains Value (@instBEqOfDecidableEq Value PySem.W.XFast.xw7966671052430208091) (Value.ref _ :: _) _); tactic => exact Mine.cont_head _ _)) | ((conv => enter [5,1,1,1,1,1]; simp only [Mine.bindp, Mine.bindp']); (conv => enter [5,1,1,1,1,1]; pattern (@List.contains Value (@instBEqOfDecidableEq Value PySem.W.XFast.xw7966671052430208091) (Value.ref _ :: _) _); tactic => exact Mine.cont_head _ _)) | ((conv => enter [5,1,1,1,1]; simp only [Mine.bindp, Mine.bindp']); (conv => enter [5,1,1,1,1]; pattern (@List.contains Value (@instBEqOfDecidableEq Value PySem.W.XFast.xw7966671052430208091) (Value.ref _ :: _) _); tactic => exact Mine.cont_head _ _)) | ((conv => enter [5,1,1,1]; simp only [Mine.bindp, Mine.bindp']); (conv => enter [5,1,1,1]; pattern (@List.contains Value (@instBEqOfDecidableEq Value PySem.W.XFast.xw7966671052430208091) (Value.ref _ :: _) _); tactic => exact Mine.cont_head _ _)) | ((conv => enter [5,1,1]; simp only [Mine.bindp, Mine.bindp']); (conv => enter [5,1,1]; pattern (@List.contains Value (@instBEqOfDecidableEq Value PySem.W.XFast.xw7966671052430208091) (Value.ref _ :: _) _); tactic => exact Mine.cont_head _ _)) | ((conv => enter [5,1]; simp only [Mine.bindp, Mine.bindp']); (conv => enter [5,1]; pattern (@List.contains Value (@instBEqOfDecidableEq Value PySem.W.XFast.xw7966671052430208091) (Value.ref _ :: _) _); tactic => exact Mine.cont_head _ _)) | ((conv => enter [5]; simp only [Mine.bindp, Mine.bindp']); (conv => enter [5]; pattern (@List.contains Value (@instBEqOfDecidableEq Value PySem.W.XFast.xw7966671052430208091) (Value.ref _ :: _) _); tactic => exact Mine.cont_head _ _)) | (conv => arg 5; pattern (List.filter _ (Value.ref _ :: _)); tactic => exact Mine.filt_obj _) | (rw [← PySem.W.XFast.xe7104952167334194321]) | (rw [Mine.chk_typenew]) | ((conv => arg 5; pattern (PySem.W.XFast.xw6838149247815620303 _); arg 1; whnf); (rw [Mine.madeBy_type])) | (conv => arg 5; pattern (PySem.Builtin.List.listSameRef _ _); tactic => first | exact Mine.same_on _ | exact Mine.same_off (by (first | (refine' Mine.Xl.neB (by assumption) (by first | (((repeat' first | exact Mine.At.head | refine' Mine.At.tail ?_ | refine' Mine.At.right ?_)); done) | fail) (by assumption)) | (refine' Mine.Xl.neB' (by assumption) (by first | (((repeat' first | exact Mine.At.head | refine' Mine.At.tail ?_ | refine' Mine.At.right ?_)); done) | fail) (by assumption)) | (refine' Mine.Xl.neN (by assumption) (by first | (((repeat' first | refine' Mine.Two.head ?_ | refine' Mine.Two.tail ?_ | exact Mine.At.head | refine' Mine.At.tail ?_ | refine' Mine.At.right ?_)); done) | fail)) | (refine' Mine.Xl.neN' (by assumption) (by first | (((repeat' first | refine' Mine.Two.head ?_ | refine' Mine.Two.tail ?_ | exact Mine.At.head | refine' Mine.At.tail ?_ | refine' Mine.At.right ?_)); done) | fail)))))) | ((with_unfolding_all conv => arg 5; whnf); (first
  | refine Mine.g_rule ?_ | refine Mine.g_at ?_ | refine Mine.g_point ?_ | refine Mine.g_ask ?_ | (refine Mine.g_fresh ?_; intro _)
  | ((with_reducible show Mine.G _ _ _ _ (Sem.load _ _ _) _ _); (conv => arg 5; arg 1; whnf); (try (conv => arg 5; arg 1; rw [Mine.succ_back])); refine' Mine.g_load (by first | ((first | (refine' Mine.Xl.get (by assumption) (by first | (((repeat' first | exact Mine.At.head | refine' Mine.At.tail ?_ | refine' Mine.At.right ?_)); done) | fail)) | exact Mine.Xl.old (by assumption) (by assumption) | exact Mine.Xl.getB (by assumption) (Mine.updF_in (by assumption)) | exact Mine.Xl.getB (by assumption) (by assumption) | exact Mine.Xl.old (by assumption) ((by assumption : Mine.KNo _ _) _ _ rfl rfl)); done) | fail) ?_)
  | ((with_reducible show Mine.G _ _ _ _ (Sem.alloc _ _) _ _); (rename Mine.Xl _ _ _ _ _ _ => kX); refine' Mine.g_alloc kX (by first | (((apply Mine.obj_is <;> walk_at "nf")); done) | fail) (by rfl) ?_; clear kX; intro _ _ _)
  | ((with_reducible show Mine.G _ _ _ _ (Sem.update _ _ _ _) _ _); (conv => arg 5; arg 1; whnf); (try (conv => arg 5; arg 1; rw [Mine.succ_back])); (rename Mine.Xl _ _ _ _ _ _ => kX); (first | (refine' Mine.g_upd kX (by first | (((repeat' first | exact Mine.At.head | refine' Mine.At.tail ?_ | refine' Mine.At.right ?_)); done) | fail) (by first | (((apply Mine.obj_is <;> walk_at "nf")); done) | fail) (by rfl) ?_) | (refine' Mine.g_updB kX (by assumption) (by first | (((apply Mine.obj_is <;> walk_at "nf")); done) | fail) (by rfl) ?_)); clear kX; intro _ kX'; (try (with_reducible show UpdF _ _ _ _ → _); (rename UpdF _ _ _ _ => kU); clear kU; intro _); (try dsimp only at kX'); revert kX'; intro _)
  | ((with_reducible show Mine.G _ _ _ _ (Sem.pure _) _ _); (conv => arg 5; arg 1; whnf); first
      | ((with_reducible show Mine.G _ _ _ _ (Sem.pure (PySem.Fin.done _)) _ _); refine' Mine.g_done' (by first | ((((conv => arg 1; whnf); first | (apply Mine.ret_is <;> walk_at "nf") | exact Mine.Is.same _)); done) | fail) ?_; (try refine Mine.g_ret ?_))
      | (refine' Mine.g_again' (by first | ((((conv => arg 1; whnf); first | (refine' Mine.cblt_is (by first | ((((try (conv => arg 1; simp [← PySem.W.SZ.e8921853674693946858x22, ← PySem.W.ZFast.ze16320311567567194475, toString, PySem.Str.toString, Nat.isValidChar])); exact Mine.Is.same _)); done) | fail) (by first | ((walk_at "nf"); done) | fail)) | (apply Mine.ccall_is <;> walk_at "nf") | (apply Mine.cfunc_is <;> walk_at "nf") | (apply Mine.cbody_is <;> walk_at "nf") | exact Mine.Is.same _)); done) | fail) (by first | ((first | exact Code.quiet_builtin _ (by decide +kernel) | rfl); done) | fail) ?_; (first | ((with_reducible show codeAny _ _ (Code.builtin "super.__getattribute__" _) _ _); refine Mine.g_codeZ ?_) | refine Mine.g_code ?_)))
  | ((with_reducible show Mine.G _ _ _ _ (Sem.call _ _ _ _ _) _ _); (conv => arg 5; arg 2; whnf); refine' Mine.g_call' (by first | ((((conv => arg 1; whnf); first | (refine' Mine.cblt_is (by first | ((((try (conv => arg 1; simp [← PySem.W.SZ.e8921853674693946858x22, ← PySem.W.ZFast.ze16320311567567194475, toString, PySem.Str.toString, Nat.isValidChar])); exact Mine.Is.same _)); done) | fail) (by first | ((walk_at "nf"); done) | fail)) | (apply Mine.ccall_is <;> walk_at "nf") | (apply Mine.cfunc_is <;> walk_at "nf") | (apply Mine.cbody_is <;> walk_at "nf") | exact Mine.Is.same _)); done) | fail) (by first | ((first | (intro h; cases h) | simp [byPass] | decide); done) | fail) ?_; (first | ((with_reducible show codeAny _ _ (Code.builtin "super.__getattribute__" _) _ _); refine Mine.g_codeZ ?_) | refine Mine.g_code ?_))
  | ((with_reducible show Mine.G _ _ _ _ (Sem.stack _) _ _); refine Mine.g_stack ?_; intro _ _ l'; (conv => arg 5; whnf); (try rw [Mine.near_eq l' rfl]); (try rw [Mine.over_eq l' rfl]); (try rw [Mine.warm_eq l' rfl]); clear l')))))
    rename Xl _ _ _ _ _ _ => kX
    exact ⟨rfl, _, _, kX.fr, kX.nw, rfl⟩
  refine wpAny_call (codeAny_mono (code_weak (A := xB0) hA (Nat.ble_eq_true_of_le (by show A.depth ≤ 550; walk_at "o")) (Nat.ble_eq_true_of_le (by show A.units ≤ 1000; walk_at "o")) rfl rfl key) fun r s' z => ?_)
  obtain ⟨rfl, h', tk', F', N', rfl⟩ := z
  dsimp only
  refine handed_on hv ?_
  exact wpAny_pure (hret _ _ F' N')
end
end
section
noncomputable def ctkStmts (P : Params) : List Stmt := match (hx.heap_1 P).lookup 35 with
  | some ⟨_, _, .func fd, _⟩ => (match fd.body with
    | .stmts b => b
    | _ => [])
  | _ => []
/-- the methods of the class that cmp_to_key makes: parameters, body, names -/
noncomputable def mthOf (P : Params) (n : Nat) : Arguments × List Stmt × Scope := match ctkStmts P with
  | .ClassDef _ _ _ b _ _ _ _ _ _ _ :: _ => (match b[n]? with
    | some (.FunctionDef _ ps s _ _ _ sc _ _ _) => (ps, s, sc)
    | _ => (⟨[], [], none, [], [], none, []⟩, [], ⟨.function, [], false, false, []⟩))
  | _ => (⟨[], [], none, [], [], none, []⟩, [], ⟨.function, [], false, false, []⟩)
/-- a method that a class's body has made, with its code -/
inductive IsMth (P : Params) (i : Nat) (clos : List (Str × Addr)) (D : List (Addr × Obj)) (f c : Nat) : Prop
  | mk (n r : Str) (doc pm w : Value) (o : Obj) (vs : Array Value) (t : Tok) (h : (f + 121, fnMade n r (mthOf P i).1 (mthOf P i).2.1 (mthOf P i).2.2 clos doc pm (c + 121) w) ∈ D) (hc : (c + 121, o) ∈ D) (hd : o.data = .fields vs) (hv : vs[1]? = some (.str r t)) : IsMth P i clos D f c
theorem IsMth.fn {P : Params} {i : Nat} {clos : List (Str × Addr)} {D : List (Addr × Obj)} {f c : Nat} (x : IsMth P i clos D f c) : IsFn D f := match x with | .mk _ _ _ _ _ _ _ _ a _ _ _ => .mk _ _ _ a
theorem IsMth.sub {P : Params} {i : Nat} {clos : List (Str × Addr)} {D D' : List (Addr × Obj)} {f c : Nat} (x : IsMth P i clos D f c) (h : ∀ p ∈ D, p ∈ D') : IsMth P i clos D' f c := match x with | .mk n r doc pm w o vs t a b c d => .mk n r doc pm w o vs t (h _ a) (h _ b) c d
/-- the objects of the class K, over the comparison in cell -/
inductive KeyObjs (P : Params) (own : List (Addr × Obj)) (K cell : Nat) (f : Value) : Prop
  | mk (mo : Str) (dK md bT sl sa f0 f1 f2 f3 f4 f5 v0 v1 : Nat) (t0 t1 t2 e0 u0 u2 u3 u4 u5 u6 u7 u8 u9 u10 u11 u12 u13 u14 : Tok) (q0 q2 q3 q4 q5 q6 q7 q8 q9 q10 q11 q12 q13 : Int)
    (hK : (K + 121, ⟨.type "type", none, .cls ⟨⟨⟨[75]⟩⟩, [.type "object"], [.ref (K + 121), .type "object"], dK + 121, ⟨⟨[99, 109, 112, 95, 116, 111, 95, 107, 101, 121, 46, 60, 108, 111, 99, 97, 108, 115, 62, 46, 75]⟩⟩, false, [⟨⟨[111, 98, 106]⟩⟩], [], false, none, false⟩, ⟨[some (.ref (bT + 121)), none, some (.str ⟨⟨[75]⟩⟩ e0), some (.str ⟨⟨[99, 109, 112, 95, 116, 111, 95, 107, 101, 121, 46, 60, 108, 111, 99, 97, 108, 115, 62, 46, 75]⟩⟩ t1), some (.builtin "object.__new__"), some (.bool false)]⟩⟩) ∈ own)
    (hD : (dK + 121, ⟨.type "dict", none, .dict ⟨[⟨q0, .str ⟨⟨[95, 95, 109, 111, 100, 117, 108, 101, 95, 95]⟩⟩ u0, .str mo t0⟩, ⟨q2, .str ⟨⟨[95, 95, 102, 105, 114, 115, 116, 108, 105, 110, 101, 110, 111, 95, 95]⟩⟩ u2, .int 17 t2⟩, ⟨q3, .str ⟨⟨[95, 95, 115, 108, 111, 116, 115, 95, 95]⟩⟩ u3, .ref (sl + 121)⟩, ⟨q4, .str ⟨⟨[95, 95, 105, 110, 105, 116, 95, 95]⟩⟩ u4, .ref (f0 + 121)⟩, ⟨q5, .str ⟨⟨[95, 95, 108, 116, 95, 95]⟩⟩ u5, .ref (f1 + 121)⟩, ⟨q6, .str ⟨⟨[95, 95, 103, 116, 95, 95]⟩⟩ u6, .ref (f2 + 121)⟩, ⟨q7, .str ⟨⟨[95, 95, 101, 113, 95, 95]⟩⟩ u7, .ref (f3 + 121)⟩, ⟨q8, .str ⟨⟨[95, 95, 108, 101, 95, 95]⟩⟩ u8, .ref (f4 + 121)⟩, ⟨q9, .str ⟨⟨[95, 95, 103, 101, 95, 95]⟩⟩ u9, .ref (f5 + 121)⟩, ⟨q10, .str ⟨⟨[95, 95, 104, 97, 115, 104, 95, 95]⟩⟩ u10, .none⟩, ⟨q11, .str ⟨⟨[95, 95, 115, 116, 97, 116, 105, 99, 95, 97, 116, 116, 114, 105, 98, 117, 116, 101, 115, 95, 95]⟩⟩ u11, .ref (sa + 121)⟩, ⟨q12, .str ⟨⟨[111, 98, 106]⟩⟩ u12, .ref (md + 121)⟩, ⟨q13, .str ⟨⟨[95, 95, 100, 111, 99, 95, 95]⟩⟩ u13, .none⟩]⟩ 3, ⟨[]⟩⟩) ∈ own)
    (hM : (md + 121, ⟨.type "member_descriptor", none, .fields ⟨[.str ⟨⟨[111, 98, 106]⟩⟩ u14, .ref (K + 121), .builtin "proto.slot", .builtin "proto.slot#set", .int 0 0]⟩, ⟨[]⟩⟩) ∈ own)
    (hF0 : IsMth P 2 [] own f0 v0) (hF1 : IsMth P 3 [(Str.ofString "mycmp", cell + 121)] own f1 v1)
    (hC : (cell + 121, ⟨.type "cell", none, .cell (some f), ⟨[]⟩⟩) ∈ own) : KeyObjs P own K cell f
noncomputable abbrev xA0 : Around := { handled := none, depth := 550, frames := none, guards := none, units := 1000 }
end
section
theorem among_snoc {pos : Pos} {a b : Nat} {c : Value} (hne : a ≠ pos.line) (l : List Value) (h : TriplesOk l) (hn : codeAmong pos l = none) : codeAmong pos (l ++ [rawInt a, rawInt b, c]) = none := by
  fun_induction TriplesOk l with
  | case1 =>
    have h1 : ((a : Int) == (pos.line : Int)) = false := beq_eq_false_iff_ne.mpr fun e => hne (Int.ofNat.inj e)
    simp [codeAmong, rawInt, h1]
  | case2 a t b u x rest ih =>
    simp only [List.cons_append, codeAmong] at hn ⊢
    split at hn
    · cases hn
    · rename_i hc; rw [if_neg hc]; exact ih h hn
  | case3 l h1 h2 => exact h.elim
/-- a table of code, all of lines below k -/
structure LinesTo (k : Nat) (ps : Array Value) : Prop where
  ok : TriplesOk ps.toList
  no : ∀ pos : Pos, k ≤ pos.line → codeAmong pos ps.toList = none
theorem LinesTo.nil : LinesTo 0 #[] := ⟨trivial, fun _ _ => rfl⟩
theorem LinesTo.snoc {k a b : Nat} {ps : Array Value} {c : Value} (x : LinesTo k ps) (h : k ≤ a) : LinesTo (a + 1) (ps ++ #[rawInt a, rawInt b, c]) := by
  refine ⟨?_, fun pos hp => ?_⟩
  · rw [Array.toList_append]; exact TriplesOk_snoc _ _ _ _ x.ok
  · rw [Array.toList_append]; exact among_snoc (Nat.ne_of_lt hp) _ x.ok (x.no pos (Nat.le_trans h (Nat.le_of_lt hp)))
section
variable {M : Model} {A : Around} {E : Value → Shared → Prop} {s : Shared} {h₀ : Heap} {L : Addr} {m mg mb : Str → Option Value} {base own : List (Addr × Obj)} {g : Obj → List (Addr × Obj)} {p : Program} {loose : List Str} {mean : ExcName → Option Value}
noncomputable abbrev dictO (es : List DictEntry) (n : Nat) : Obj := ⟨.type "dict", none, .dict ⟨es⟩ n, ⟨[]⟩⟩
/-- a name stored in the dict of a class's body -/
theorem x_store {env : Env} {es : List DictEntry} {es' : Int → Tok → List DictEntry} {n n' : Nat} {name : Str} {v : Value} {Q : Unit → Shared → Prop}
    (X : Xl h₀ L s.heap m base own) (i : At env.locals (dictO es n) own g) (hk : storeName env name v = localSet env name v) (ha : aRefKeyMayBeTheName name ⟨es⟩ = false)
    (e : ∀ hs t, Obj.putName name hs (.str name t) v (dictO es n) = dictO (es' hs t) n')
    (h : ∀ hs t h', Xl h₀ L h' m base (g (dictO (es' hs t) n')) → Q () { s with heap := h', toks := s.toks + 1 }) :
    wpAny M A (storeName env name v) Q E s := by
  rw [hk]
  unfold localSet
  refine wpAny_bind (wpAny_load (X.get i) ?_)
  show wpAny M A (if (Value.type "dict" == Value.type "dict") = true then nsSet env.locals name v else _) Q E s
  rw [if_pos (by decide)]
  unfold nsSet strHash
  refine wpAny_bind (wpAny_bind (wpAny_askSetting (wpAny_pure ?_)))
  refine wpAny_bind (wpAny_mkText ?_)
  refine wpAny_bind (wpAny_loadPart (X.get i) ?_)
  dsimp only
  rw [ha]
  simp only [Bool.false_eq_true, if_false]
  refine wpAny_updatePart (X.get i) ?_
  have q := fun hs => X.upd (f := Obj.putName name hs (.str name s.toks) v) i (by rw [e]; rfl)
  simp only [e] at q
  exact h _ _ _ (q _)
/-- a function made in a class's body: its object and its code ahead of the own ledger -/
theorem x_make {env : Env} {c P : Addr} {ps : Array Value} {name qual : Str} {params : Arguments} {body : List Stmt} {scope : Scope} {pos : Pos} {firstLine : Nat} {clos : List (Str × Addr)} {Q : Value → Shared → Prop}
    (X : Xl h₀ L s.heap m base own) (T : Top p loose mean mg mb h₀) (i : At P (tabObj ps) own g) (C : CodeHd s.heap c P) (hcode : env.code = .ref c) (hge : env.globals = mainGlobals)
    (hcl : closureFor scope env = pure clos) (ht : TriplesOk ps.toList) (hnf : codeAmong pos ps.toList = none)
    (h : ∀ (f c' : Nat) oc vs t ctv doc h' tk, Xl h₀ L h' m base ((f + 121, fnMade name qual params body scope clos doc ((mg "__name__").getD .none) (c' + 121) ctv) :: (c' + 121, oc) :: g (tabObj (ps ++ #[rawInt pos.line, rawInt pos.col, .ref (c' + 121)]))) →
      oc.data = .fields vs → vs[1]? = some (.str qual t) → Q (.ref (f + 121)) { s with heap := h', toks := tk }) :
    wpAny M A (makeFunction name qual params (.stmts body) scope env [] [] [] pos firstLine) Q E s := by
  have hm := X.nw (P, tabObj ps) (List.mem_append_left _ i.mem)
  have hgs := T.g.keeps X.fr.keep
  obtain ⟨bm, ob, b1, b2, b3, b4, b5, b6⟩ := T.bmain
  have hgP : mainGlobals ≠ P := fun q => by
    obtain ⟨o, es, ep, e, hd, _⟩ := hgs
    rw [q, hm.1] at e; cases e; cases hd
  have hbP : bm ≠ P := fun q => by
    have e := X.fr.keep _ _ b3
    rw [q, hm.1] at e; cases e; cases b4
  have hbG : bm ≠ mainGlobals := fun q => by
    obtain ⟨o, es, ep, e, hd, _⟩ := T.g
    rw [q, e] at b3; cases b3; rw [hd] at b6; cases b6
  refine makeFunction_K (mg := mg) hcl hge hgs hcode C hm.1 ht hnf hgP ⟨bm, ob, b1, b2, hbG, hbP, X.fr.keep _ _ b3, b4, b5, b6⟩ fun c' ctv doc h' tk hx hge hlt hrec htb => ?_
  obtain ⟨c₂, oc, vs, t, e2, hoc, hd, hv⟩ := hrec
  cases e2
  have hLs : L < s.heap.objs.size := X.fr.ns.lt
  have h121 : 121 ≤ s.heap.objs.size := Nat.le_trans X.big (Nat.le_trans X.fr.above (Nat.le_of_lt hLs))
  have hLc : L < c' := Nat.lt_of_lt_of_le hLs hge
  obtain ⟨c9, rfl⟩ : ∃ k : Nat, c' = k + 121 := ⟨c' - 121, (Nat.sub_add_cancel (Nat.le_trans h121 hge)).symm⟩
  obtain ⟨f9, hf9⟩ : ∃ k : Nat, h'.objs.size = k + 121 := ⟨h'.objs.size - 121, (Nat.sub_add_cancel (Nat.le_trans h121 (Nat.le_trans hge (Nat.le_of_lt hlt)))).symm⟩
  have hnew : (h'.push (fnMade name qual params body scope clos doc ((mg "__name__").getD .none) (c9 + 121) ctv)).get? (f9 + 121) = some (fnMade name qual params body scope clos doc ((mg "__name__").getD .none) (c9 + 121) ctv) := by
    rw [← hf9]; exact Heap.get?_push_size _ rfl
  rw [hf9] at hlt ⊢
  have old : ∀ b o, h₀.get? b = some o → h'.get? b = some o := fun b o e => hx b o (fun q => by rw [q, hm.2.2] at e; cases e) (X.fr.keep b o e)
  have fresh : ∀ b, L < b → h₀.get? b = none := fun b hb => Heap.get?_none_of_le (Nat.le_trans X.fr.above (Nat.le_of_lt hb))
  obtain ⟨pre, post, hown, hg⟩ := i.split
  have ord := X.ord
  rw [hown, List.map_append, List.map_cons] at ord
  have h1 : ∀ q ∈ pre, q.1 ≠ P := fun q hq => Nat.ne_of_gt ((List.pairwise_append.mp ord).2.2 q.1 (List.mem_map_of_mem hq) P (.head _))
  have h2 : ∀ q ∈ post, q.1 ≠ P := fun q hq => Nat.ne_of_lt ((List.pairwise_cons.mp (List.pairwise_append.mp ord).2.1).1 q.1 (List.mem_map_of_mem hq))
  have h3 : ∀ q ∈ base, q.1 ≠ P := fun q hq => Nat.ne_of_lt (X.low (P, tabObj ps) i.mem q hq)
  have hmap : ∀ o', (g o').map (·.1) = own.map (·.1) := fun o' => by rw [hg, hown]; simp
  have hin : ∀ o', ∀ q ∈ g o', ∃ o, (q.1, o) ∈ own := fun o' q hq => by
    have : q.1 ∈ (g o').map (·.1) := List.mem_map_of_mem (f := Prod.fst) hq
    rw [hmap] at this
    obtain ⟨r, hr, e⟩ := List.mem_map.mp this
    exact ⟨r.2, by rw [← e]; exact hr⟩
  have lts : ∀ o', ∀ q ∈ g o', q.1 < c9 + 121 := fun o' q hq => by
    obtain ⟨o, ho⟩ := hin o' q hq
    exact Nat.lt_of_lt_of_le (Heap.lt_size (X.nw _ (List.mem_append_left _ ho)).1) hge
  refine h f9 c9 oc vs t ctv doc _ tk ⟨⟨(X.fr.ns.extBut hx hm.2.1.symm).push _, fun b o e => Heap.get?_push_of_some _ (old b o e), X.fr.above⟩, fun q hq => ?_, ?_, fun q hq r hr => ?_, fun q hq => ?_, X.big⟩ hd hv
  · rcases List.mem_append.mp hq with hq | hq
    · rcases List.mem_cons.mp hq with rfl | hq
      · exact ⟨hnew, Nat.ne_of_gt (Nat.lt_trans hLc hlt), fresh _ (Nat.lt_trans hLc hlt)⟩
      rcases List.mem_cons.mp hq with rfl | hq
      · exact ⟨Heap.get?_push_of_some _ hoc, Nat.ne_of_gt hLc, fresh _ hLc⟩
      rw [hg] at hq
      rcases List.mem_append.mp hq with hq | hq
      · have n := X.nw q (List.mem_append_left _ (by rw [hown]; exact List.mem_append_left _ hq))
        exact ⟨Heap.get?_push_of_some _ (hx _ _ (h1 q hq) n.1), n.2⟩
      · rcases List.mem_cons.mp hq with rfl | hq
        · exact ⟨Heap.get?_push_of_some _ htb, hm.2⟩
        · have n := X.nw q (List.mem_append_left _ (by rw [hown]; exact List.mem_append_right _ (.tail _ hq)))
          exact ⟨Heap.get?_push_of_some _ (hx _ _ (h2 q hq) n.1), n.2⟩
    · have n := X.nw q (List.mem_append_right _ hq)
      exact ⟨Heap.get?_push_of_some _ (hx _ _ (h3 q hq) n.1), n.2⟩
  · rw [List.map_cons, List.map_cons, hmap]
    refine List.Pairwise.cons (fun b hb => ?_) (List.Pairwise.cons (fun b hb => ?_) X.ord)
    · rcases List.mem_cons.mp hb with rfl | hb
      · exact hlt
      · obtain ⟨r, hr, rfl⟩ := List.mem_map.mp hb
        exact Nat.lt_trans (Nat.lt_of_lt_of_le (Heap.lt_size (X.nw _ (List.mem_append_left _ hr)).1) hge) hlt
    · obtain ⟨r, hr, rfl⟩ := List.mem_map.mp hb
      exact Nat.lt_of_lt_of_le (Heap.lt_size (X.nw _ (List.mem_append_left _ hr)).1) hge
  · have hr2 : r.1 < c9 + 121 := Nat.lt_of_lt_of_le (Heap.lt_size (X.nw r (List.mem_append_right _ hr)).1) hge
    rcases List.mem_cons.mp hq with rfl | hq
    · exact Nat.lt_trans hr2 hlt
    rcases List.mem_cons.mp hq with rfl | hq
    · exact hr2
    · obtain ⟨o, ho⟩ := hin _ q hq
      exact X.low (q.1, o) ho r hr
  · rcases List.mem_cons.mp hq with rfl | hq
    · exact Nat.lt_trans hLc hlt
    rcases List.mem_cons.mp hq with rfl | hq
    · exact hLc
    · obtain ⟨o, ho⟩ := hin _ q hq
      exact X.far (q.1, o) ho
end
section
variable {M : Model} {A : Around} {E : Value → Shared → Prop} {s : Shared} {h₀ : Heap} {L : Addr} {m mg mb : Str → Option Value} {base D A0 B C : List (Addr × Obj)} {p : Program} {loose : List Str} {mean : ExcName → Option Value}
/-- the own ledger while a class's body runs: what it has made ahead, the table of its code, its dict -/
noncomputable abbrev bodyL (D A0 B C : List (Addr × Obj)) (P N : Nat) (ps : Array Value) (es : List DictEntry) (n : Nat) : List (Addr × Obj) := D ++ (A0 ++ (P + 121, tabObj ps) :: (B ++ (N + 121, dictO es n) :: C))
theorem at_tab {P N : Nat} {ps : Array Value} {es : List DictEntry} {n : Nat} : At (P + 121) (tabObj ps) (bodyL D A0 B C P N ps es n) (fun o => D ++ (A0 ++ (P + 121, o) :: (B ++ (N + 121, dictO es n) :: C))) := .right (.right .head)
theorem at_dict {P N : Nat} {ps : Array Value} {es : List DictEntry} {n : Nat} : At (N + 121) (dictO es n) (bodyL D A0 B C P N ps es n) (fun o => D ++ (A0 ++ (P + 121, tabObj ps) :: (B ++ (N + 121, o) :: C))) := .right (.right (.tail (.right .head)))
/-- a class's body: its environment -/
structure ClsEnv (env : Env) (c P N : Nat) (oc : Obj) (A0 : List (Addr × Obj)) : Prop where
  loc : env.locals = N + 121
  code : env.code = .ref (c + 121)
  glob : env.globals = mainGlobals
  inA : (c + 121, oc) ∈ A0
  hd : ∀ h : Heap, h.get? (c + 121) = some oc → CodeHd h (c + 121) (P + 121)
theorem x_put {env : Env} {c P N : Nat} {oc : Obj} {ps : Array Value} {es : List DictEntry} {es' : Int → Tok → List DictEntry} {n n' : Nat} {name : Str} {v : Value} {Q : Unit → Shared → Prop} (V : ClsEnv env c P N oc A0)
    (X : Xl h₀ L s.heap m base (bodyL D A0 B C P N ps es n)) (hk : storeName env name v = localSet env name v) (ha : aRefKeyMayBeTheName name ⟨es⟩ = false)
    (e : ∀ hs t, Obj.putName name hs (.str name t) v (dictO es n) = dictO (es' hs t) n')
    (h : ∀ hs t h' tk, Xl h₀ L h' m base (bodyL D A0 B C P N ps (es' hs t) n') → Q () { s with heap := h', toks := tk }) :
    wpAny M A (storeName env name v) Q E s :=
  x_store X (by rw [V.loc]; exact at_dict) hk ha e fun hs t h' X' => h hs t h' _ X'
theorem x_assign {env : Env} {x : Str} {pos' pos : Pos} {value : Expr} {rest : List Stmt} {Q : Flow → Shared → Prop} (hs : swapsWith value (some (.Name x pos')) pos.line env = pure false)
    (h : wpAny M A (eval value env) (fun v s₁ => wpAny M A (storeName env x v) (fun _ s₂ => wpAny M A (execs rest env) Q E s₂) E s₁) E s) :
    wpAny M A (execs (.Assign [.Name x pos'] value pos :: rest) env) Q E s :=
  wpAny_execs_cons (wpAny_Assign_Name h hs)
theorem x_def {env : Env} {c P N : Nat} {oc : Obj} {ps : Array Value} {es : List DictEntry} {es' : Value → Int → Tok → List DictEntry} {n n' ln : Nat} {name qual : Str} {params : Arguments} {body rest : List Stmt} {scope : Scope} {pos : Pos} {clos : List (Str × Addr)} {Q : Flow → Shared → Prop} (V : ClsEnv env c P N oc A0)
    (X : Xl h₀ L s.heap m base (bodyL D A0 B C P N ps es n)) (T : Top p loose mean mg mb h₀) (hd0 : params.defaults = []) (hk0 : params.kw_defaults = []) (ha0 : annTrees params none env = []) (hq : qualnameIn env name name = qual)
    (hcl : closureFor scope env = pure clos) (hl : LinesTo ln ps) (hle : ln ≤ pos.line)
    (hk : ∀ v, storeName env name v = localSet env name v) (ha : aRefKeyMayBeTheName name ⟨es⟩ = false)
    (e : ∀ v hs t, Obj.putName name hs (.str name t) v (dictO es n) = dictO (es' v hs t) n')
    (h : ∀ (f c' : Nat) D' ps' o vs t ctv doc hs u h' tk, (∀ q ∈ D, q ∈ D') → (f + 121, fnMade name qual params body scope clos doc ((mg "__name__").getD .none) (c' + 121) ctv) ∈ D' → (c' + 121, o) ∈ D' → o.data = .fields vs → vs[1]? = some (.str qual t) → LinesTo (pos.line + 1) ps' →
      Xl h₀ L h' m base (bodyL D' A0 B C P N ps' (es' (.ref (f + 121)) hs u) n') → wpAny M A (execs rest env) Q E { s with heap := h', toks := tk }) :
    wpAny M A (execs (.FunctionDef name params body [] none [] scope none name pos :: rest) env) Q E s := by
  refine wpAny_execs_cons (nestDef_K hd0 hk0 ha0 ?_)
  rw [hq]
  refine x_make X T at_tab (V.hd _ (X.nw _ (List.mem_append_left _ (List.mem_append_right _ (List.mem_append_left _ V.inA)))).1) V.code V.glob hcl hl.ok (hl.no _ hle) ?_
  intro f c' o vs t ctv doc h' tk X' hdt hv
  refine x_put (D := _ :: _ :: D) V X' (hk _) ha (e _) ?_
  intro hs u h2 tk2 X2
  exact h f c' _ _ o vs t ctv doc hs u h2 tk2 (fun q hq => .tail _ (.tail _ hq)) (.head _) (.tail _ (.head _)) hdt hv (hl.snoc hle) X2
end
section
variable {M : Model} {A : Around} {E : Value → Shared → Prop} {h₀ h : Heap} {gs : Array GenState} {d : Drawn} {tk : Nat} {os : OsState} {L : Addr} {m mg mb : Str → Option Value} {base D A0 B C : List (Addr × Obj)} {p : Program} {loose : List Str} {mean : ExcName → Option Value}
  {env : Env} {c P N : Nat} {oc : Obj} {ps : Array Value} {es : List DictEntry} {n : Nat} {name : Str} {rest : List Stmt} {pos pos' pos2 : Pos} {k : Nat} {Q : Flow → Shared → Prop}
/-- NAME = 'text', the name new -/
theorem x_str {x : Str} {es' : Value → Int → Tok → List DictEntry} {n' : Nat} (V : ClsEnv env c P N oc A0) (X : Xl h₀ L h m base (bodyL D A0 B C P N ps es n)) (hk : ∀ v, storeName env name v = localSet env name v) (ha : aRefKeyMayBeTheName name ⟨es⟩ = false)
    (e : ∀ v hs t, Obj.putName name hs (.str name t) v (dictO es n) = dictO (es' v hs t) n')
    (H : ∀ t hs u h' tk', Xl h₀ L h' m base (bodyL D A0 B C P N ps (es' (.str x t) hs u) n') → wpAny M A (execs rest env) Q E ⟨h', gs, d, tk', os⟩) :
    wpAny M A (execs (.Assign [.Name name pos'] (.Constant (.str x) k pos2) pos :: rest) env) Q E ⟨h, gs, d, tk, os⟩ :=
  x_assign rfl (wpAny_Constant_str (x_put V X (hk _) ha (e _) fun hs u h' tk' X' => H _ hs u h' tk' X'))
/-- NAME = None, the name new -/
theorem x_none (V : ClsEnv env c P N oc A0) (X : Xl h₀ L h m base (bodyL D A0 B C P N ps es n)) (hk : ∀ v, storeName env name v = localSet env name v) (ha : aRefKeyMayBeTheName name ⟨es⟩ = false)
    (e : ∀ v hs t, Obj.putName name hs (.str name t) v (dictO es n) = dictO (es ++ [⟨hs, .str name t, v⟩]) (n + 1))
    (H : ∀ hs u h' tk', Xl h₀ L h' m base (bodyL D A0 B C P N ps (es ++ [⟨hs, .str name u, .none⟩]) (n + 1)) → wpAny M A (execs rest env) Q E ⟨h', gs, d, tk', os⟩) :
    wpAny M A (execs (.Assign [.Name name pos'] (.Constant .none k pos2) pos :: rest) env) Q E ⟨h, gs, d, tk, os⟩ :=
  x_assign rfl (wpAny_Constant_none (x_put (es' := fun hs t => es ++ [⟨hs, .str name t, .none⟩]) V X (hk _) ha (e _) fun hs u h' tk' X' => H hs u h' tk' X'))
theorem x_new {o : Obj} {own : List (Addr × Obj)} (X : Xl h₀ L h m base own) (hf : o.isFreed = false) : ∃ a : Nat, h.objs.size = a + 121 ∧ Xl h₀ L (h.push o) m base ((a + 121, o) :: own) := by
  have hle : 121 ≤ h.objs.size := Nat.le_trans X.big (Nat.le_trans X.fr.above (Nat.le_of_lt X.fr.ns.lt))
  have Y := X.alloc o hf
  obtain ⟨a, e⟩ : ∃ a : Nat, h.objs.size = a + 121 := ⟨h.objs.size - 121, (Nat.sub_add_cancel hle).symm⟩
  rw [e] at Y
  exact ⟨a, e, Y⟩
/-- NAME = ['text'], the name new -/
theorem x_list {x : Str} {k' : Nat} {pos3 : Pos} (V : ClsEnv env c P N oc A0) (X : Xl h₀ L h m base (bodyL D A0 B C P N ps es n)) (hk : ∀ v, storeName env name v = localSet env name v) (ha : aRefKeyMayBeTheName name ⟨es⟩ = false)
    (e : ∀ v hs t, Obj.putName name hs (.str name t) v (dictO es n) = dictO (es ++ [⟨hs, .str name t, v⟩]) (n + 1))
    (H : ∀ (sl : Nat) t D' hs u h' tk', (∀ q ∈ D, q ∈ D') → (sl + 121, (⟨.type "list", none, .seq ⟨[.str x t]⟩ 0, ⟨[]⟩⟩ : Obj)) ∈ D' → Xl h₀ L h' m base (bodyL D' A0 B C P N ps (es ++ [⟨hs, .str name u, .ref (sl + 121)⟩]) (n + 1)) → wpAny M A (execs rest env) Q E ⟨h', gs, d, tk', os⟩) :
    wpAny M A (execs (.Assign [.Name name pos'] (.List [.Constant (.str x) k' pos3] pos2) pos :: rest) env) Q E ⟨h, gs, d, tk, os⟩ := by
  refine x_assign rfl (wpAny_List (args_cons (wpAny_Constant_str (args_nil ⟨Nat.le_of_ble_eq_true rfl, ?_⟩))))
  obtain ⟨sl, esl, X1⟩ := x_new (o := { cls := .type "list", data := .seq [Value.str x tk].toArray }) X rfl
  dsimp only
  rw [esl]
  exact x_put (D := _ :: D) (es' := fun hs t => es ++ [⟨hs, .str name t, .ref (sl + 121)⟩]) V X1 (hk _) ha (e _) fun hs u h' tk' X' => H sl _ _ hs u h' tk' (fun q hq => .tail _ hq) (.head _) X'
/-- def NAME, the name new -/
theorem x_defN {ln : Nat} {qual : Str} {params : Arguments} {body : List Stmt} {scope : Scope} {clos : List (Str × Addr)} (V : ClsEnv env c P N oc A0)
    (X : Xl h₀ L h m base (bodyL D A0 B C P N ps es n)) (T : Top p loose mean mg mb h₀) (hd0 : params.defaults = []) (hk0 : params.kw_defaults = []) (ha0 : annTrees params none env = []) (hq : qualnameIn env name name = qual)
    (hcl : closureFor scope env = pure clos) (hl : LinesTo ln ps) (hle : ln ≤ pos.line)
    (hk : ∀ v, storeName env name v = localSet env name v) (ha : aRefKeyMayBeTheName name ⟨es⟩ = false)
    (e : ∀ v hs t, Obj.putName name hs (.str name t) v (dictO es n) = dictO (es ++ [⟨hs, .str name t, v⟩]) (n + 1))
    (H : ∀ (f c' : Nat) D' ps' o vs t ctv doc hs u h' tk', (∀ q ∈ D, q ∈ D') → (f + 121, fnMade name qual params body scope clos doc ((mg "__name__").getD .none) (c' + 121) ctv) ∈ D' → (c' + 121, o) ∈ D' → o.data = .fields vs → vs[1]? = some (.str qual t) → LinesTo (pos.line + 1) ps' →
      Xl h₀ L h' m base (bodyL D' A0 B C P N ps' (es ++ [⟨hs, .str name u, .ref (f + 121)⟩]) (n + 1)) → wpAny M A (execs rest env) Q E ⟨h', gs, d, tk', os⟩) :
    wpAny M A (execs (.FunctionDef name params body [] none [] scope none name pos :: rest) env) Q E ⟨h, gs, d, tk, os⟩ :=
  x_def (es' := fun v hs t => es ++ [⟨hs, .str name t, v⟩]) V X T hd0 hk0 ha0 hq hcl hl hle hk ha e H
end
end
section
noncomputable def clsOf (P : Params) : List Stmt × Scope := match ctkStmts P with
  | .ClassDef _ _ _ b _ _ sc _ _ _ _ :: _ => (b, sc)
  | _ => ([], ⟨.function, [], false, false, []⟩)
theorem dict_as {h₀ h : Heap} {L : Addr} {m : Str → Option Value} {base D A0 B C : List (Addr × Obj)} {P N : Nat} {ps : Array Value} {es es' : List DictEntry} {n n' : Nat} (X : Xl h₀ L h m base (bodyL D A0 B C P N ps es n)) (e : es = es') (e2 : n = n') : Xl h₀ L h m base (bodyL D A0 B C P N ps es' n') := by subst e; subst e2; exact X
theorem any_AE {α : Type} {M : Model} {A : Around} {t : Sem α} {Q : α → Shared → Prop} {E : Value → Shared → Prop} {s : Shared} (h : ∀ A' E', wpAny M A' t Q E' s) : wpAny M A t Q E s := h _ _
theorem c_body {w : World} {A : Around} {h₀ h : Heap} {gs : Array GenState} {d : Drawn} {tk : Nat} {os : OsState} {L : Addr} {m mg mb : Str → Option Value} {base A0 B C : List (Addr × Obj)} {p : Program} {loose : List Str} {mean : ExcName → Option Value} {R : Result → Shared → Prop} {P N c cell fr : Nat} {oc : Obj} {q0 q1 q2 : Int} {u0 u1 u2 : Tok} {v0 v1 v2 : Value}
    (T : Top p loose mean mg mb h₀)
    (X : Xl h₀ L h m base ([] ++ (A0 ++ (P + 121, tabObj #[]) :: (B ++ (N + 121, dictO [⟨q0, .str ⟨⟨[95, 95, 109, 111, 100, 117, 108, 101, 95, 95]⟩⟩ u0, v0⟩, ⟨q1, .str ⟨⟨[95, 95, 113, 117, 97, 108, 110, 97, 109, 101, 95, 95]⟩⟩ u1, v1⟩, ⟨q2, .str ⟨⟨[95, 95, 102, 105, 114, 115, 116, 108, 105, 110, 101, 110, 111, 95, 95]⟩⟩ u2, v2⟩] 3) :: C))))
    (hc : (c + 121, oc) ∈ A0) (hd : ∀ h : Heap, h.get? (c + 121) = some oc → CodeHd h (c + 121) (P + 121))
    (hret : ∀ (D : List (Addr × Obj)) (sl f0 f1 f2 f3 f4 f5 c0 c1 : Nat) (ps : Array Value) (q3 q4 q5 q6 q7 q8 q9 q10 : Int) (t0 t3 u3 u4 u5 u6 u7 u8 u9 u10 : Tok) h' tk', IsMth w.params 2 [] D f0 c0 → IsMth w.params 3 [(Str.ofString "mycmp", cell + 121)] D f1 c1 → IsFn D f2 → IsFn D f3 → IsFn D f4 → IsFn D f5 →
      (sl + 121, (⟨.type "list", none, .seq ⟨[.str ⟨⟨[111, 98, 106]⟩⟩ t3]⟩ 0, ⟨[]⟩⟩ : Obj)) ∈ D →
      Xl h₀ L h' m base (D ++ (A0 ++ (P + 121, tabObj ps) :: (B ++ (N + 121, dictO [⟨q0, .str ⟨⟨[95, 95, 109, 111, 100, 117, 108, 101, 95, 95]⟩⟩ u0, .str (Str.ofString "cpy313.functools") t0⟩, ⟨q1, .str ⟨⟨[95, 95, 113, 117, 97, 108, 110, 97, 109, 101, 95, 95]⟩⟩ u1, v1⟩, ⟨q2, .str ⟨⟨[95, 95, 102, 105, 114, 115, 116, 108, 105, 110, 101, 110, 111, 95, 95]⟩⟩ u2, v2⟩, ⟨q3, .str ⟨⟨[95, 95, 115, 108, 111, 116, 115, 95, 95]⟩⟩ u3, .ref (sl + 121)⟩, ⟨q4, .str ⟨⟨[95, 95, 105, 110, 105, 116, 95, 95]⟩⟩ u4, .ref (f0 + 121)⟩, ⟨q5, .str ⟨⟨[95, 95, 108, 116, 95, 95]⟩⟩ u5, .ref (f1 + 121)⟩, ⟨q6, .str ⟨⟨[95, 95, 103, 116, 95, 95]⟩⟩ u6, .ref (f2 + 121)⟩, ⟨q7, .str ⟨⟨[95, 95, 101, 113, 95, 95]⟩⟩ u7, .ref (f3 + 121)⟩, ⟨q8, .str ⟨⟨[95, 95, 108, 101, 95, 95]⟩⟩ u8, .ref (f4 + 121)⟩, ⟨q9, .str ⟨⟨[95, 95, 103, 101, 95, 95]⟩⟩ u9, .ref (f5 + 121)⟩, ⟨q10, .str ⟨⟨[95, 95, 104, 97, 115, 104, 95, 95]⟩⟩ u10, .none⟩] 11) :: C))) → R (.ok .next) ⟨h', gs, d, tk', os⟩) :
    codeAny (model Challenge.rw_il0109_01.row.prog w) A (.body (clsOf w.params).1 ⟨(clsOf w.params).2, N + 121, 3, [(⟨⟨[109, 121, 99, 109, 112]⟩⟩, cell + 121)], ⟨⟨[99, 109, 112, 95, 116, 111, 95, 107, 101, 121, 46, 60, 108, 111, 99, 97, 108, 115, 62, 46, 75, 46]⟩⟩, none, .ref (c + 121), some fr, 0⟩) R ⟨h, gs, d, tk, os⟩ := by
  repeat (conv in (clsOf _) => whnf)
  dsimp only
  refine codeAny_body rfl rfl ?_
  refine any_AE fun A9 E9 => ?_
  have V := fun env (e1 : env.locals = N + 121) (e2 : env.code = .ref (c + 121)) (e3 : env.globals = mainGlobals) => (ClsEnv.mk e1 e2 e3 hc hd : ClsEnv env c P N oc A0)
  refine x_str (es' := fun v _ _ => [⟨q0, .str ⟨⟨[95, 95, 109, 111, 100, 117, 108, 101, 95, 95]⟩⟩ u0, v⟩, ⟨q1, .str ⟨⟨[95, 95, 113, 117, 97, 108, 110, 97, 109, 101, 95, 95]⟩⟩ u1, v1⟩, ⟨q2, .str ⟨⟨[95, 95, 102, 105, 114, 115, 116, 108, 105, 110, 101, 110, 111, 95, 95]⟩⟩ u2, v2⟩]) (n' := 3) (V _ rfl rfl rfl) X (fun _ => by kernel_rfl) (by kernel_rfl) (fun _ _ _ => by kernel_rfl) ?_
  clear X
  intro t0 _ _ h1 tk1 X
  refine x_list (V _ rfl rfl rfl) X (fun _ => by kernel_rfl) (by kernel_rfl) (fun _ _ _ => by kernel_rfl) ?_
  clear X
  intro sl t3 D1 q3 u3 h2 tk2 _ hsl X
  refine x_defN (V _ rfl rfl rfl) X T rfl rfl rfl rfl (clos := []) (by kernel_rfl) .nil (Nat.zero_le _) (fun _ => by kernel_rfl) (by kernel_rfl) (fun _ _ _ => by kernel_rfl) ?_
  clear X
  intro f0 c0 D2 ps2 o0 vs0 tt0 ctv0 doc0 q4 u4 h3 tk3 hs2 hf0 hc0 hdt0 hv0 ht X
  replace hsl := hs2 _ hsl
  have F0 : IsMth w.params 2 [] D2 f0 c0 := .mk _ _ _ _ _ _ _ _ hf0 hc0 hdt0 hv0
  clear hs2 hf0 hc0 hdt0 hv0
  refine x_defN (V _ rfl rfl rfl) X T rfl rfl rfl rfl (clos := [(Str.ofString "mycmp", cell + 121)]) (by kernel_rfl) ht (Nat.le_of_ble_eq_true rfl) (fun _ => by kernel_rfl) (by kernel_rfl) (fun _ _ _ => by kernel_rfl) ?_
  clear X
  intro f1 c1 D3 ps3 o1 vs1 tt1 ctv1 doc1 q5 u5 h4 tk4 hs2 hf hc1 hdt hv ht2 X
  replace hsl := hs2 _ hsl
  replace F0 := F0.sub hs2
  have F1 : IsMth w.params 3 [(Str.ofString "mycmp", cell + 121)] D3 f1 c1 := .mk _ _ _ _ _ _ _ _ hf hc1 hdt hv
  clear ht; have ht := ht2; clear ht2
  clear hs2 hf hc1 hdt hv
  refine x_defN (V _ rfl rfl rfl) X T rfl rfl rfl rfl (clos := [(Str.ofString "mycmp", cell + 121)]) (by kernel_rfl) ht (Nat.le_of_ble_eq_true rfl) (fun _ => by kernel_rfl) (by kernel_rfl) (fun _ _ _ => by kernel_rfl) ?_
  clear X
  intro f2 c2 D4 ps4 o2 vs2 tt2 ctv2 doc2 q6 u6 h5 tk5 hs2 hf hc2 hdt hv ht2 X
  replace hsl := hs2 _ hsl
  replace F0 := F0.sub hs2
  replace F1 := F1.sub hs2
  have F2 : IsFn D4 f2 := .mk _ _ _ hf
  clear ht; have ht := ht2; clear ht2
  clear hs2 hf hc2 hdt hv
  refine x_defN (V _ rfl rfl rfl) X T rfl rfl rfl rfl (clos := [(Str.ofString "mycmp", cell + 121)]) (by kernel_rfl) ht (Nat.le_of_ble_eq_true rfl) (fun _ => by kernel_rfl) (by kernel_rfl) (fun _ _ _ => by kernel_rfl) ?_
  clear X
  intro f3 c3 D5 ps5 o3 vs3 tt3 ctv3 doc3 q7 u7 h6 tk6 hs2 hf hc3 hdt hv ht2 X
  replace hsl := hs2 _ hsl
  replace F0 := F0.sub hs2
  replace F1 := F1.sub hs2
  replace F2 := F2.sub hs2
  have F3 : IsFn D5 f3 := .mk _ _ _ hf
  clear ht; have ht := ht2; clear ht2
  clear hs2 hf hc3 hdt hv
  refine x_defN (V _ rfl rfl rfl) X T rfl rfl rfl rfl (clos := [(Str.ofString "mycmp", cell + 121)]) (by kernel_rfl) ht (Nat.le_of_ble_eq_true rfl) (fun _ => by kernel_rfl) (by kernel_rfl) (fun _ _ _ => by kernel_rfl) ?_
  clear X
  intro f4 c4 D6 ps6 o4 vs4 tt4 ctv4 doc4 q8 u8 h7 tk7 hs2 hf hc4 hdt hv ht2 X
  replace hsl := hs2 _ hsl
  replace F0 := F0.sub hs2
  replace F1 := F1.sub hs2
  replace F2 := F2.sub hs2
  replace F3 := F3.sub hs2
  have F4 : IsFn D6 f4 := .mk _ _ _ hf
  clear ht; have ht := ht2; clear ht2
  clear hs2 hf hc4 hdt hv
  refine x_defN (V _ rfl rfl rfl) X T rfl rfl rfl rfl (clos := [(Str.ofString "mycmp", cell + 121)]) (by kernel_rfl) ht (Nat.le_of_ble_eq_true rfl) (fun _ => by kernel_rfl) (by kernel_rfl) (fun _ _ _ => by kernel_rfl) ?_
  clear X
  intro f5 c5 D7 ps7 o5 vs5 tt5 ctv5 doc5 q9 u9 h8 tk8 hs2 hf hc5 hdt hv ht2 X
  replace hsl := hs2 _ hsl
  replace F0 := F0.sub hs2
  replace F1 := F1.sub hs2
  replace F2 := F2.sub hs2
  replace F3 := F3.sub hs2
  replace F4 := F4.sub hs2
  have F5 : IsFn D7 f5 := .mk _ _ _ hf
  clear ht; have ht := ht2; clear ht2
  clear hs2 hf hc5 hdt hv
  refine x_none (V _ rfl rfl rfl) X (fun _ => by kernel_rfl) (by kernel_rfl) (fun _ _ _ => by kernel_rfl) ?_
  clear X
  intro q10 u10 h9 tk9 X
  refine wpAny_execs_nil ?_
  exact hret D7 sl f0 f1 f2 f3 f4 f5 c0 c1 _ q3 q4 q5 q6 q7 q8 q9 q10 t0 t3 u3 u4 u5 u6 u7 u8 u9 u10 h9 tk9 F0 F1 F2 F3 F4 F5 hsl (dict_as X (by kernel_rfl) rfl)
end
section
theorem xc_ctk {w : World} {h₀ : Heap} {L : Addr} {m mg mb : Str → Option Value} {p : Program} {loose : List Str} {mean : ExcName → Option Value} {base : List (Addr × Obj)} {g} {s : Shared} {R : Result → Shared → Prop} (F : Fr h₀ L s.heap m) (N : News h₀ L s.heap base) (hb0 : 121 ≤ h₀.objs.size) (KN : KNo w.params h₀) (T : Top p loose mean mg mb h₀) (f : Addr) (U : UpdF 30 (tabObj #[]) base g)
   (hret : ∀ (K cell : Nat) own ps h' tk', Xl h₀ L h' m (g (tabObj ps)) own → KeyObjs w.params own K cell (.ref f) → R (.ok (.ret (.ref (K + 121)))) { s with heap := h', toks := tk' }) :
   codeAny (model Challenge.rw_il0109_01.row.prog w) xA0 (.call (.ref 35) ⟨[.ref f], []⟩) R s := by
  have X := Xl.start F N hb0
  clear N
  obtain ⟨h, gs, d, tk, os⟩ := s
  dsimp only at X hret
  refine g_code ?_
  repeat (((conv => arg 5; whnf); first | (first
  | refine Mine.g_rule ?_ | refine Mine.g_at ?_ | refine Mine.g_point ?_ | refine Mine.g_ask ?_ | (refine Mine.g_fresh ?_; intro _)
  | ((with_reducible show Mine.G _ _ _ _ (Sem.load _ _ _) _ _); (conv => arg 5; arg 1; whnf); (try (conv => arg 5; arg 1; rw [Mine.succ_back])); refine' Mine.g_load (by first | ((first | (refine' Mine.Xl.get (by assumption) (by first | (((repeat' first | exact Mine.At.head | refine' Mine.At.tail ?_ | refine' Mine.At.right ?_)); done) | fail)) | exact Mine.Xl.old (by assumption) (by assumption) | exact Mine.Xl.getB (by assumption) (Mine.updF_in (by assumption)) | exact Mine.Xl.getB (by assumption) (by assumption) | exact Mine.Xl.old (by assumption) ((by assumption : Mine.KNo _ _) _ _ rfl rfl)); done) | fail) ?_)
  | ((with_reducible show Mine.G _ _ _ _ (Sem.alloc _ _) _ _); (rename Mine.Xl _ _ _ _ _ _ => kX); refine' Mine.g_alloc kX (by first | (((apply Mine.obj_is <;> walk_at "nf")); done) | fail) (by rfl) ?_; clear kX; intro _ _ _)
  | ((with_reducible show Mine.G _ _ _ _ (Sem.update _ _ _ _) _ _); (conv => arg 5; arg 1; whnf); (try (conv => arg 5; arg 1; rw [Mine.succ_back])); (rename Mine.Xl _ _ _ _ _ _ => kX); (first | (refine' Mine.g_upd kX (by first | (((repeat' first | exact Mine.At.head | refine' Mine.At.tail ?_ | refine' Mine.At.right ?_)); done) | fail) (by first | (((apply Mine.obj_is <;> walk_at "nf")); done) | fail) (by rfl) ?_) | (refine' Mine.g_updB kX (by assumption) (by first | (((apply Mine.obj_is <;> walk_at "nf")); done) | fail) (by rfl) ?_)); clear kX; intro _ kX'; (try (with_reducible show UpdF _ _ _ _ → _); (rename UpdF _ _ _ _ => kU); clear kU; intro _); (try dsimp only at kX'); revert kX'; intro _)
  | ((with_reducible show Mine.G _ _ _ _ (Sem.pure _) _ _); (conv => arg 5; arg 1; whnf); first
      | ((with_reducible show Mine.G _ _ _ _ (Sem.pure (PySem.Fin.done _)) _ _); refine' Mine.g_done' (by first | ((((conv => arg 1; whnf); first | (apply Mine.ret_is <;> walk_at "nf") | exact Mine.Is.same _)); done) | fail) ?_; (try refine Mine.g_ret ?_))
      | (refine' Mine.g_again' (by first | ((((conv => arg 1; whnf); first | (refine' Mine.cblt_is (by first | ((((try (conv => arg 1; simp [← PySem.W.SZ.e8921853674693946858x22, ← PySem.W.ZFast.ze16320311567567194475, toString, PySem.Str.toString, Nat.isValidChar])); exact Mine.Is.same _)); done) | fail) (by first | ((walk_at "nf"); done) | fail)) | (apply Mine.ccall_is <;> walk_at "nf") | (apply Mine.cfunc_is <;> walk_at "nf") | (apply Mine.cbody_is <;> walk_at "nf") | exact Mine.Is.same _)); done) | fail) (by first | ((first | exact Code.quiet_builtin _ (by decide +kernel) | rfl); done) | fail) ?_; (first | ((with_reducible show codeAny _ _ (Code.body _ _) _ _); skip) | ((with_reducible show codeAny _ _ (Code.call (Value.type "type") _) _ _); skip) | refine Mine.g_code ?_)))
  | ((with_reducible show Mine.G _ _ _ _ (Sem.call _ _ _ _ _) _ _); (conv => arg 5; arg 2; whnf); refine' Mine.g_call' (by first | ((((conv => arg 1; whnf); first | (refine' Mine.cblt_is (by first | ((((try (conv => arg 1; simp [← PySem.W.SZ.e8921853674693946858x22, ← PySem.W.ZFast.ze16320311567567194475, toString, PySem.Str.toString, Nat.isValidChar])); exact Mine.Is.same _)); done) | fail) (by first | ((walk_at "nf"); done) | fail)) | (apply Mine.ccall_is <;> walk_at "nf") | (apply Mine.cfunc_is <;> walk_at "nf") | (apply Mine.cbody_is <;> walk_at "nf") | exact Mine.Is.same _)); done) | fail) (by first | ((first | (intro h; cases h) | simp [byPass] | decide); done) | fail) ?_; (first | ((with_reducible show codeAny _ _ (Code.body _ _) _ _); skip) | ((with_reducible show codeAny _ _ (Code.call (Value.type "type") _) _ _); skip) | refine Mine.g_code ?_))
  | ((with_reducible show Mine.G _ _ _ _ (Sem.stack _) _ _); refine Mine.g_stack ?_; intro _ _ l'; (conv => arg 5; whnf); (try rw [Mine.near_eq l' rfl]); (try rw [Mine.over_eq l' rfl]); (try rw [Mine.warm_eq l' rfl]); clear l')) | (first | ((conv => arg 5; pattern (List.drop 1 (List.dropWhile _ _)); tactic => exact Mine.drop_head _ _); (conv => arg 5; pattern (@BEq.beq Value (@instBEqOfDecidableEq Value PySem.W.ZFast.zw7966671052430208091) _ _); tactic => exact Mine.zeq _)) | ((conv => enter [5,1,1,1,1,1,1,1]; simp only [Mine.bindp, Mine.bindp']); (conv => enter [5,1,1,1,1,1,1,1]; pattern (@List.contains Value (@instBEqOfDecidableEq Value PySem.W.XFast.xw7966671052430208091) (Value.ref _ :: _) _); tactic => exact Mine.cont_head _ _)) | ((conv => enter [5,1,1,1,1,1,1]; simp only [Mine.bindp, Mine.bindp']); (conv => enter [5,1,1,1,1,1,1]; pattern (@List.contains Value (@instBEqOfDecidableEq Value PySem.W.XFast.xw7966671052430208091) (Value.ref _ :: _) _); tactic => exact Mine.cont_head _ _)) | ((conv => enter [5,1,1,1,1,1]; simp only [Mine.bindp, Mine.bindp']); (conv => enter [5,1,1,1,1,1]; pattern (@List.contains Value (@instBEqOfDecidableEq Value PySem.W.XFast.xw7966671052430208091) (Value.ref _ :: _) _); tactic => exact Mine.cont_head _ _)) | ((conv => enter [5,1,1,1,1]; simp only [Mine.bindp, Mine.bindp']); (conv => enter [5,1,1,1,1]; pattern (@List.contains Value (@instBEqOfDecidableEq Value PySem.W.XFast.xw7966671052430208091) (Value.ref _ :: _) _); tactic => exact Mine.cont_head _ _)) | ((conv => enter [5,1,1,1]; simp only [Mine.bindp, Mine.bindp']); (conv => enter [5,1,1,1]; pattern (@List.contains Value (@instBEqOfDecidableEq Value PySem.W.XFast.xw7966671052430208091) (Value.ref _ :: _) _); tactic => exact Mine.cont_head _ _)) | ((conv => enter [5,1,1]; simp only [Mine.bindp, Mine.bindp']); (conv => enter [5,1,1]; pattern (@List.contains Value (@instBEqOfDecidableEq Value PySem.W.XFast.xw7966671052430208091) (Value.ref _ :: _) _); tactic => exact Mine.cont_head _ _)) | ((conv => enter [5,1]; simp only [Mine.bindp, Mine.bindp']); (conv => enter [5,1]; pattern (@List.contains Value (@instBEqOfDecidableEq Value PySem.W.XFast.xw7966671052430208091) (Value.ref _ :: _) _); tactic => exact Mine.cont_head _ _)) | ((conv => enter [5]; simp only [Mine.bindp, Mine.bindp']); (conv => enter [5]; pattern (@List.contains Value (@instBEqOfDecidableEq Value PySem.W.XFast.xw7966671052430208091) (Value.ref _ :: _) _); tactic => exact Mine.cont_head _ _)) | (conv => arg 5; pattern (List.filter _ (Value.ref _ :: _)); tactic => exact Mine.filt_obj _) | (rw [← PySem.W.XFast.xe7104952167334194321]) | (rw [Mine.chk_typenew]) | ((conv => arg 5; pattern (PySem.W.XFast.xw6838149247815620303 _); arg 1; whnf); (rw [Mine.madeBy_type])) | (conv => arg 5; pattern (PySem.Builtin.List.listSameRef _ _); tactic => first | exact Mine.same_on _ | exact Mine.same_off (by (first | (refine' Mine.Xl.neB (by assumption) (by first | (((repeat' first | exact Mine.At.head | refine' Mine.At.tail ?_ | refine' Mine.At.right ?_)); done) | fail) (by assumption)) | (refine' Mine.Xl.neB' (by assumption) (by first | (((repeat' first | exact Mine.At.head | refine' Mine.At.tail ?_ | refine' Mine.At.right ?_)); done) | fail) (by assumption)) | (refine' Mine.Xl.neN (by assumption) (by first | (((repeat' first | refine' Mine.Two.head ?_ | refine' Mine.Two.tail ?_ | exact Mine.At.head | refine' Mine.At.tail ?_ | refine' Mine.At.right ?_)); done) | fail)) | (refine' Mine.Xl.neN' (by assumption) (by first | (((repeat' first | refine' Mine.Two.head ?_ | refine' Mine.Two.tail ?_ | exact Mine.At.head | refine' Mine.At.tail ?_ | refine' Mine.At.right ?_)); done) | fail)))))) | ((with_unfolding_all conv => arg 5; whnf); (first
  | refine Mine.g_rule ?_ | refine Mine.g_at ?_ | refine Mine.g_point ?_ | refine Mine.g_ask ?_ | (refine Mine.g_fresh ?_; intro _)
  | ((with_reducible show Mine.G _ _ _ _ (Sem.load _ _ _) _ _); (conv => arg 5; arg 1; whnf); (try (conv => arg 5; arg 1; rw [Mine.succ_back])); refine' Mine.g_load (by first | ((first | (refine' Mine.Xl.get (by assumption) (by first | (((repeat' first | exact Mine.At.head | refine' Mine.At.tail ?_ | refine' Mine.At.right ?_)); done) | fail)) | exact Mine.Xl.old (by assumption) (by assumption) | exact Mine.Xl.getB (by assumption) (Mine.updF_in (by assumption)) | exact Mine.Xl.getB (by assumption) (by assumption) | exact Mine.Xl.old (by assumption) ((by assumption : Mine.KNo _ _) _ _ rfl rfl)); done) | fail) ?_)
  | ((with_reducible show Mine.G _ _ _ _ (Sem.alloc _ _) _ _); (rename Mine.Xl _ _ _ _ _ _ => kX); refine' Mine.g_alloc kX (by first | (((apply Mine.obj_is <;> walk_at "nf")); done) | fail) (by rfl) ?_; clear kX; intro _ _ _)
  | ((with_reducible show Mine.G _ _ _ _ (Sem.update _ _ _ _) _ _); (conv => arg 5; arg 1; whnf); (try (conv => arg 5; arg 1; rw [Mine.succ_back])); (rename Mine.Xl _ _ _ _ _ _ => kX); (first | (refine' Mine.g_upd kX (by first | (((repeat' first | exact Mine.At.head | refine' Mine.At.tail ?_ | refine' Mine.At.right ?_)); done) | fail) (by first | (((apply Mine.obj_is <;> walk_at "nf")); done) | fail) (by rfl) ?_) | (refine' Mine.g_updB kX (by assumption) (by first | (((apply Mine.obj_is <;> walk_at "nf")); done) | fail) (by rfl) ?_)); clear kX; intro _ kX'; (try (with_reducible show UpdF _ _ _ _ → _); (rename UpdF _ _ _ _ => kU); clear kU; intro _); (try dsimp only at kX'); revert kX'; intro _)
  | ((with_reducible show Mine.G _ _ _ _ (Sem.pure _) _ _); (conv => arg 5; arg 1; whnf); first
      | ((with_reducible show Mine.G _ _ _ _ (Sem.pure (PySem.Fin.done _)) _ _); refine' Mine.g_done' (by first | ((((conv => arg 1; whnf); first | (apply Mine.ret_is <;> walk_at "nf") | exact Mine.Is.same _)); done) | fail) ?_; (try refine Mine.g_ret ?_))
      | (refine' Mine.g_again' (by first | ((((conv => arg 1; whnf); first | (refine' Mine.cblt_is (by first | ((((try (conv => arg 1; simp [← PySem.W.SZ.e8921853674693946858x22, ← PySem.W.ZFast.ze16320311567567194475, toString, PySem.Str.toString, Nat.isValidChar])); exact Mine.Is.same _)); done) | fail) (by first | ((walk_at "nf"); done) | fail)) | (apply Mine.ccall_is <;> walk_at "nf") | (apply Mine.cfunc_is <;> walk_at "nf") | (apply Mine.cbody_is <;> walk_at "nf") | exact Mine.Is.same _)); done) | fail) (by first | ((first | exact Code.quiet_builtin _ (by decide +kernel) | rfl); done) | fail) ?_; (first | ((with_reducible show codeAny _ _ (Code.body _ _) _ _); skip) | ((with_reducible show codeAny _ _ (Code.call (Value.type "type") _) _ _); skip) | refine Mine.g_code ?_)))
  | ((with_reducible show Mine.G _ _ _ _ (Sem.call _ _ _ _ _) _ _); (conv => arg 5; arg 2; whnf); refine' Mine.g_call' (by first | ((((conv => arg 1; whnf); first | (refine' Mine.cblt_is (by first | ((((try (conv => arg 1; simp [← PySem.W.SZ.e8921853674693946858x22, ← PySem.W.ZFast.ze16320311567567194475, toString, PySem.Str.toString, Nat.isValidChar])); exact Mine.Is.same _)); done) | fail) (by first | ((walk_at "nf"); done) | fail)) | (apply Mine.ccall_is <;> walk_at "nf") | (apply Mine.cfunc_is <;> walk_at "nf") | (apply Mine.cbody_is <;> walk_at "nf") | exact Mine.Is.same _)); done) | fail) (by first | ((first | (intro h; cases h) | simp [byPass] | decide); done) | fail) ?_; (first | ((with_reducible show codeAny _ _ (Code.body _ _) _ _); skip) | ((with_reducible show codeAny _ _ (Code.call (Value.type "type") _) _ _); skip) | refine Mine.g_code ?_))
  | ((with_reducible show Mine.G _ _ _ _ (Sem.stack _) _ _); refine Mine.g_stack ?_; intro _ _ l'; (conv => arg 5; whnf); (try rw [Mine.near_eq l' rfl]); (try rw [Mine.over_eq l' rfl]); (try rw [Mine.warm_eq l' rfl]); clear l')))))
  rename Xl _ _ _ _ _ _ => X
  refine c_body (A0 := [_, _]) (B := [_]) (C := [_, _, _, _]) T X (.tail _ (.head _)) (fun h e => ⟨_, _, _, _, _, _, _, _, _, e, rfl, rfl, rfl, rfl, rfl, rfl, rfl, rfl, X.neN (.tail (.head .head))⟩) ?_
  clear X
  intro D sl f0 f1 f2 f3 f4 f5 c0 c1 ps q3 q4 q5 q6 q7 q8 q9 q10 t0 t3 u3 u4 u5 u6 u7 u8 u9 u10 h9 tk9 F0 F1 F2 F3 F4 F5 hsl X
  dsimp only [List.cons_append, List.nil_append] at X
  refine g_ret ?_
  repeat (((conv => arg 5; whnf); first | (first
  | refine Mine.g_rule ?_ | refine Mine.g_at ?_ | refine Mine.g_point ?_ | refine Mine.g_ask ?_ | (refine Mine.g_fresh ?_; intro _)
  | ((with_reducible show Mine.G _ _ _ _ (Sem.load _ _ _) _ _); (conv => arg 5; arg 1; whnf); (try (conv => arg 5; arg 1; rw [Mine.succ_back])); refine' Mine.g_load (by first | ((first | (refine' Mine.Xl.get (by assumption) (by first | (((repeat' first | exact Mine.At.head | refine' Mine.At.tail ?_ | refine' Mine.At.right ?_)); done) | fail)) | exact Mine.Xl.old (by assumption) (by assumption) | exact Mine.Xl.getB (by assumption) (Mine.updF_in (by assumption)) | exact Mine.Xl.getB (by assumption) (by assumption) | exact Mine.Xl.old (by assumption) ((by assumption : Mine.KNo _ _) _ _ rfl rfl)); done) | fail) ?_)
  | ((with_reducible show Mine.G _ _ _ _ (Sem.alloc _ _) _ _); (rename Mine.Xl _ _ _ _ _ _ => kX); refine' Mine.g_alloc kX (by first | (((apply Mine.obj_is <;> walk_at "nf")); done) | fail) (by rfl) ?_; clear kX; intro _ _ _)
  | ((with_reducible show Mine.G _ _ _ _ (Sem.update _ _ _ _) _ _); (conv => arg 5; arg 1; whnf); (try (conv => arg 5; arg 1; rw [Mine.succ_back])); (rename Mine.Xl _ _ _ _ _ _ => kX); (first | (refine' Mine.g_upd kX (by first | (((repeat' first | exact Mine.At.head | refine' Mine.At.tail ?_ | refine' Mine.At.right ?_)); done) | fail) (by first | (((apply Mine.obj_is <;> walk_at "nf")); done) | fail) (by rfl) ?_) | (refine' Mine.g_updB kX (by assumption) (by first | (((apply Mine.obj_is <;> walk_at "nf")); done) | fail) (by rfl) ?_)); clear kX; intro _ kX'; (try (with_reducible show UpdF _ _ _ _ → _); (rename UpdF _ _ _ _ => kU); clear kU; intro _); (try dsimp only at kX'); revert kX'; intro _)
  | ((with_reducible show Mine.G _ _ _ _ (Sem.pure _) _ _); (conv => arg 5; arg 1; whnf); first
      | ((with_reducible show Mine.G _ _ _ _ (Sem.pure (PySem.Fin.done _)) _ _); refine' Mine.g_done' (by first | ((((conv => arg 1; whnf); first | (apply Mine.ret_is <;> walk_at "nf") | exact Mine.Is.same _)); done) | fail) ?_; (try refine Mine.g_ret ?_))
      | (refine' Mine.g_again' (by first | ((((conv => arg 1; whnf); first | (refine' Mine.cblt_is (by first | ((((try (conv => arg 1; simp [← PySem.W.SZ.e8921853674693946858x22, ← PySem.W.ZFast.ze16320311567567194475, toString, PySem.Str.toString, Nat.isValidChar])); exact Mine.Is.same _)); done) | fail) (by first | ((walk_at "nf"); done) | fail)) | (apply Mine.ccall_is <;> walk_at "nf") | (apply Mine.cfunc_is <;> walk_at "nf") | (apply Mine.cbody_is <;> walk_at "nf") | exact Mine.Is.same _)); done) | fail) (by first | ((first | exact Code.quiet_builtin _ (by decide +kernel) | rfl); done) | fail) ?_; (first | ((with_reducible show codeAny _ _ (Code.body _ _) _ _); skip) | ((with_reducible show codeAny _ _ (Code.call (Value.type "type") _) _ _); skip) | refine Mine.g_code ?_)))
  | ((with_reducible show Mine.G _ _ _ _ (Sem.call _ _ _ _ _) _ _); (conv => arg 5; arg 2; whnf); refine' Mine.g_call' (by first | ((((conv => arg 1; whnf); first | (refine' Mine.cblt_is (by first | ((((try (conv => arg 1; simp [← PySem.W.SZ.e8921853674693946858x22, ← PySem.W.ZFast.ze16320311567567194475, toString, PySem.Str.toString, Nat.isValidChar])); exact Mine.Is.same _)); done) | fail) (by first | ((walk_at "nf"); done) | fail)) | (apply Mine.ccall_is <;> walk_at "nf") | (apply Mine.cfunc_is <;> walk_at "nf") | (apply Mine.cbody_is <;> walk_at "nf") | exact Mine.Is.same _)); done) | fail) (by first | ((first | (intro h; cases h) | simp [byPass] | decide); done) | fail) ?_; (first | ((with_reducible show codeAny _ _ (Code.body _ _) _ _); skip) | ((with_reducible show codeAny _ _ (Code.call (Value.type "type") _) _ _); skip) | refine Mine.g_code ?_))
  | ((with_reducible show Mine.G _ _ _ _ (Sem.stack _) _ _); refine Mine.g_stack ?_; intro _ _ l'; (conv => arg 5; whnf); (try rw [Mine.near_eq l' rfl]); (try rw [Mine.over_eq l' rfl]); (try rw [Mine.warm_eq l' rfl]); clear l')) | (first | ((conv => arg 5; pattern (List.drop 1 (List.dropWhile _ _)); tactic => exact Mine.drop_head _ _); (conv => arg 5; pattern (@BEq.beq Value (@instBEqOfDecidableEq Value PySem.W.ZFast.zw7966671052430208091) _ _); tactic => exact Mine.zeq _)) | ((conv => enter [5,1,1,1,1,1,1,1]; simp only [Mine.bindp, Mine.bindp']); (conv => enter [5,1,1,1,1,1,1,1]; pattern (@List.contains Value (@instBEqOfDecidableEq Value PySem.W.XFast.xw7966671052430208091) (Value.ref _ :: _) _); tactic => exact Mine.cont_head _ _)) | ((conv => enter [5,1,1,1,1,1,1]; simp only [Mine.bindp, Mine.bindp']); (conv => enter [5,1,1,1,1,1,1]; pattern (@List.contains Value (@instBEqOfDecidableEq Value PySem.W.XFast.xw7966671052430208091) (Value.ref _ :: _) _); tactic => exact Mine.cont_head _ _)) | ((conv => enter [5,1,1,1,1,1]; simp only [Mine.bindp, Mine.bindp']); (conv => enter [5,1,1,1,1,1]; pattern (@List.contains Value (@instBEqOfDecidableEq Value PySem.W.XFast.xw7966671052430208091) (Value.ref _ :: _) _); tactic => exact Mine.cont_head _ _)) | ((conv => enter [5,1,1,1,1]; simp only [Mine.bindp, Mine.bindp']); (conv => enter [5,1,1,1,1]; pattern (@List.contains Value (@instBEqOfDecidableEq Value PySem.W.XFast.xw7966671052430208091) (Value.ref _ :: _) _); tactic => exact Mine.cont_head _ _)) | ((conv => enter [5,1,1,1]; simp only [Mine.bindp, Mine.bindp']); (conv => enter [5,1,1,1]; pattern (@List.contains Value (@instBEqOfDecidableEq Value PySem.W.XFast.xw7966671052430208091) (Value.ref _ :: _) _); tactic => exact Mine.cont_head _ _)) | ((conv => enter [5,1,1]; simp only [Mine.bindp, Mine.bindp']); (conv => enter [5,1,1]; pattern (@List.contains Value (@instBEqOfDecidableEq Value PySem.W.XFast.xw7966671052430208091) (Value.ref _ :: _) _); tactic => exact Mine.cont_head _ _)) | ((conv => enter [5,1]; simp only [Mine.bindp, Mine.bindp']); (conv => enter [5,1]; pattern (@List.contains Value (@instBEqOfDecidableEq Value PySem.W.XFast.xw7966671052430208091) (Value.ref _ :: _) _); tactic => exact Mine.cont_head _ _)) | ((conv => enter [5]; simp only [Mine.bindp, Mine.bindp']); (conv => enter [5]; pattern (@List.contains Value (@instBEqOfDecidableEq Value PySem.W.XFast.xw7966671052430208091) (Value.ref _ :: _) _); tactic => exact Mine.cont_head _ _)) | (conv => arg 5; pattern (List.filter _ (Value.ref _ :: _)); tactic => exact Mine.filt_obj _) | (rw [← PySem.W.XFast.xe7104952167334194321]) | (rw [Mine.chk_typenew]) | ((conv => arg 5; pattern (PySem.W.XFast.xw6838149247815620303 _); arg 1; whnf); (rw [Mine.madeBy_type])) | (conv => arg 5; pattern (PySem.Builtin.List.listSameRef _ _); tactic => first | exact Mine.same_on _ | exact Mine.same_off (by (first | (refine' Mine.Xl.neB (by assumption) (by first | (((repeat' first | exact Mine.At.head | refine' Mine.At.tail ?_ | refine' Mine.At.right ?_)); done) | fail) (by assumption)) | (refine' Mine.Xl.neB' (by assumption) (by first | (((repeat' first | exact Mine.At.head | refine' Mine.At.tail ?_ | refine' Mine.At.right ?_)); done) | fail) (by assumption)) | (refine' Mine.Xl.neN (by assumption) (by first | (((repeat' first | refine' Mine.Two.head ?_ | refine' Mine.Two.tail ?_ | exact Mine.At.head | refine' Mine.At.tail ?_ | refine' Mine.At.right ?_)); done) | fail)) | (refine' Mine.Xl.neN' (by assumption) (by first | (((repeat' first | refine' Mine.Two.head ?_ | refine' Mine.Two.tail ?_ | exact Mine.At.head | refine' Mine.At.tail ?_ | refine' Mine.At.right ?_)); done) | fail)))))) | ((with_unfolding_all conv => arg 5; whnf); (first
  | refine Mine.g_rule ?_ | refine Mine.g_at ?_ | refine Mine.g_point ?_ | refine Mine.g_ask ?_ | (refine Mine.g_fresh ?_; intro _)
  | ((with_reducible show Mine.G _ _ _ _ (Sem.load _ _ _) _ _); (conv => arg 5; arg 1; whnf); (try (conv => arg 5; arg 1; rw [Mine.succ_back])); refine' Mine.g_load (by first | ((first | (refine' Mine.Xl.get (by assumption) (by first | (((repeat' first | exact Mine.At.head | refine' Mine.At.tail ?_ | refine' Mine.At.right ?_)); done) | fail)) | exact Mine.Xl.old (by assumption) (by assumption) | exact Mine.Xl.getB (by assumption) (Mine.updF_in (by assumption)) | exact Mine.Xl.getB (by assumption) (by assumption) | exact Mine.Xl.old (by assumption) ((by assumption : Mine.KNo _ _) _ _ rfl rfl)); done) | fail) ?_)
  | ((with_reducible show Mine.G _ _ _ _ (Sem.alloc _ _) _ _); (rename Mine.Xl _ _ _ _ _ _ => kX); refine' Mine.g_alloc kX (by first | (((apply Mine.obj_is <;> walk_at "nf")); done) | fail) (by rfl) ?_; clear kX; intro _ _ _)
  | ((with_reducible show Mine.G _ _ _ _ (Sem.update _ _ _ _) _ _); (conv => arg 5; arg 1; whnf); (try (conv => arg 5; arg 1; rw [Mine.succ_back])); (rename Mine.Xl _ _ _ _ _ _ => kX); (first | (refine' Mine.g_upd kX (by first | (((repeat' first | exact Mine.At.head | refine' Mine.At.tail ?_ | refine' Mine.At.right ?_)); done) | fail) (by first | (((apply Mine.obj_is <;> walk_at "nf")); done) | fail) (by rfl) ?_) | (refine' Mine.g_updB kX (by assumption) (by first | (((apply Mine.obj_is <;> walk_at "nf")); done) | fail) (by rfl) ?_)); clear kX; intro _ kX'; (try (with_reducible show UpdF _ _ _ _ → _); (rename UpdF _ _ _ _ => kU); clear kU; intro _); (try dsimp only at kX'); revert kX'; intro _)
  | ((with_reducible show Mine.G _ _ _ _ (Sem.pure _) _ _); (conv => arg 5; arg 1; whnf); first
      | ((with_reducible show Mine.G _ _ _ _ (Sem.pure (PySem.Fin.done _)) _ _); refine' Mine.g_done' (by first | ((((conv => arg 1; whnf); first | (apply Mine.ret_is <;> walk_at "nf") | exact Mine.Is.same _)); done) | fail) ?_; (try refine Mine.g_ret ?_))
      | (refine' Mine.g_again' (by first | ((((conv => arg 1; whnf); first | (refine' Mine.cblt_is (by first | ((((try (conv => arg 1; simp [← PySem.W.SZ.e8921853674693946858x22, ← PySem.W.ZFast.ze16320311567567194475, toString, PySem.Str.toString, Nat.isValidChar])); exact Mine.Is.same _)); done) | fail) (by first | ((walk_at "nf"); done) | fail)) | (apply Mine.ccall_is <;> walk_at "nf") | (apply Mine.cfunc_is <;> walk_at "nf") | (apply Mine.cbody_is <;> walk_at "nf") | exact Mine.Is.same _)); done) | fail) (by first | ((first | exact Code.quiet_builtin _ (by decide +kernel) | rfl); done) | fail) ?_; (first | ((with_reducible show codeAny _ _ (Code.body _ _) _ _); skip) | ((with_reducible show codeAny _ _ (Code.call (Value.type "type") _) _ _); skip) | refine Mine.g_code ?_)))
  | ((with_reducible show Mine.G _ _ _ _ (Sem.call _ _ _ _ _) _ _); (conv => arg 5; arg 2; whnf); refine' Mine.g_call' (by first | ((((conv => arg 1; whnf); first | (refine' Mine.cblt_is (by first | ((((try (conv => arg 1; simp [← PySem.W.SZ.e8921853674693946858x22, ← PySem.W.ZFast.ze16320311567567194475, toString, PySem.Str.toString, Nat.isValidChar])); exact Mine.Is.same _)); done) | fail) (by first | ((walk_at "nf"); done) | fail)) | (apply Mine.ccall_is <;> walk_at "nf") | (apply Mine.cfunc_is <;> walk_at "nf") | (apply Mine.cbody_is <;> walk_at "nf") | exact Mine.Is.same _)); done) | fail) (by first | ((first | (intro h; cases h) | simp [byPass] | decide); done) | fail) ?_; (first | ((with_reducible show codeAny _ _ (Code.body _ _) _ _); skip) | ((with_reducible show codeAny _ _ (Code.call (Value.type "type") _) _ _); skip) | refine Mine.g_code ?_))
  | ((with_reducible show Mine.G _ _ _ _ (Sem.stack _) _ _); refine Mine.g_stack ?_; intro _ _ l'; (conv => arg 5; whnf); (try rw [Mine.near_eq l' rfl]); (try rw [Mine.over_eq l' rfl]); (try rw [Mine.warm_eq l' rfl]); clear l')))))
  rename Xl _ _ _ _ _ _ => kX
  refine code_weak (A := xA) rfl rfl rfl rfl rfl ?_
  refine xc_type kX.fr kX.nw hb0 KN _ _ _ _ _ _ _ _ _ _ _ _ _ _ _ _ _ _ _ _ _ _ _ _ _ _ _ _ _ _ _ _ _ _ _ _ _ _ _ _ _ (List.mem_append_left _ (At.mem (by (repeat' first | exact Mine.At.head | refine' Mine.At.tail ?_ | refine' Mine.At.right ?_)))) (List.mem_append_left _ (At.mem (by (repeat' first | exact Mine.At.head | refine' Mine.At.tail ?_ | refine' Mine.At.right ?_)))) (List.mem_append_left _ (.tail _ (List.mem_append_left _ hsl))) (List.mem_append_left _ (.head _)) F0.fn.in3 F1.fn.in3 F2.in3 F3.in3 F4.in3 F5.in3 ?_
  intro K dK md u12 u13 u14 q12 q13 k0 own h' tk' Y hk hK hD hM
  subst hk
  have Z := Y.join kX.ord kX.low kX.far
  clear Y kX
  refine g_ret ?_
  repeat (((conv => arg 5; whnf); first | (first
  | refine Mine.g_rule ?_ | refine Mine.g_at ?_ | refine Mine.g_point ?_ | refine Mine.g_ask ?_ | (refine Mine.g_fresh ?_; intro _)
  | ((with_reducible show Mine.G _ _ _ _ (Sem.load _ _ _) _ _); (conv => arg 5; arg 1; whnf); (try (conv => arg 5; arg 1; rw [Mine.succ_back])); refine' Mine.g_load (by first | ((first | (refine' Mine.Xl.get (by assumption) (by first | (((repeat' first | exact Mine.At.head | refine' Mine.At.tail ?_ | refine' Mine.At.right ?_)); done) | fail)) | exact Mine.Xl.old (by assumption) (by assumption) | exact Mine.Xl.getB (by assumption) (Mine.updF_in (by assumption)) | exact Mine.Xl.getB (by assumption) (by assumption) | exact Mine.Xl.old (by assumption) ((by assumption : Mine.KNo _ _) _ _ rfl rfl)); done) | fail) ?_)
  | ((with_reducible show Mine.G _ _ _ _ (Sem.alloc _ _) _ _); (rename Mine.Xl _ _ _ _ _ _ => kX); refine' Mine.g_alloc kX (by first | (((apply Mine.obj_is <;> walk_at "nf")); done) | fail) (by rfl) ?_; clear kX; intro _ _ _)
  | ((with_reducible show Mine.G _ _ _ _ (Sem.update _ _ _ _) _ _); (conv => arg 5; arg 1; whnf); (try (conv => arg 5; arg 1; rw [Mine.succ_back])); (rename Mine.Xl _ _ _ _ _ _ => kX); (first | (refine' Mine.g_upd kX (by first | (((repeat' first | exact Mine.At.head | refine' Mine.At.tail ?_ | refine' Mine.At.right ?_)); done) | fail) (by first | (((apply Mine.obj_is <;> walk_at "nf")); done) | fail) (by rfl) ?_) | (refine' Mine.g_updB kX (by assumption) (by first | (((apply Mine.obj_is <;> walk_at "nf")); done) | fail) (by rfl) ?_)); clear kX; intro _ kX'; (try (with_reducible show UpdF _ _ _ _ → _); (rename UpdF _ _ _ _ => kU); clear kU; intro _); (try dsimp only at kX'); revert kX'; intro _)
  | ((with_reducible show Mine.G _ _ _ _ (Sem.pure _) _ _); (conv => arg 5; arg 1; whnf); first
      | ((with_reducible show Mine.G _ _ _ _ (Sem.pure (PySem.Fin.done _)) _ _); refine' Mine.g_done' (by first | ((((conv => arg 1; whnf); first | (apply Mine.ret_is <;> walk_at "nf") | exact Mine.Is.same _)); done) | fail) ?_; (try refine Mine.g_ret ?_))
      | (refine' Mine.g_again' (by first | ((((conv => arg 1; whnf); first | (refine' Mine.cblt_is (by first | ((((try (conv => arg 1; simp [← PySem.W.SZ.e8921853674693946858x22, ← PySem.W.ZFast.ze16320311567567194475, toString, PySem.Str.toString, Nat.isValidChar])); exact Mine.Is.same _)); done) | fail) (by first | ((walk_at "nf"); done) | fail)) | (apply Mine.ccall_is <;> walk_at "nf") | (apply Mine.cfunc_is <;> walk_at "nf") | (apply Mine.cbody_is <;> walk_at "nf") | exact Mine.Is.same _)); done) | fail) (by first | ((first | exact Code.quiet_builtin _ (by decide +kernel) | rfl); done) | fail) ?_; (first | ((with_reducible show codeAny _ _ (Code.body _ _) _ _); skip) | ((with_reducible show codeAny _ _ (Code.call (Value.type "type") _) _ _); skip) | refine Mine.g_code ?_)))
  | ((with_reducible show Mine.G _ _ _ _ (Sem.call _ _ _ _ _) _ _); (conv => arg 5; arg 2; whnf); refine' Mine.g_call' (by first | ((((conv => arg 1; whnf); first | (refine' Mine.cblt_is (by first | ((((try (conv => arg 1; simp [← PySem.W.SZ.e8921853674693946858x22, ← PySem.W.ZFast.ze16320311567567194475, toString, PySem.Str.toString, Nat.isValidChar])); exact Mine.Is.same _)); done) | fail) (by first | ((walk_at "nf"); done) | fail)) | (apply Mine.ccall_is <;> walk_at "nf") | (apply Mine.cfunc_is <;> walk_at "nf") | (apply Mine.cbody_is <;> walk_at "nf") | exact Mine.Is.same _)); done) | fail) (by first | ((first | (intro h; cases h) | simp [byPass] | decide); done) | fail) ?_; (first | ((with_reducible show codeAny _ _ (Code.body _ _) _ _); skip) | ((with_reducible show codeAny _ _ (Code.call (Value.type "type") _) _ _); skip) | refine Mine.g_code ?_))
  | ((with_reducible show Mine.G _ _ _ _ (Sem.stack _) _ _); refine Mine.g_stack ?_; intro _ _ l'; (conv => arg 5; whnf); (try rw [Mine.near_eq l' rfl]); (try rw [Mine.over_eq l' rfl]); (try rw [Mine.warm_eq l' rfl]); clear l')) | (first | ((conv => arg 5; pattern (List.drop 1 (List.dropWhile _ _)); tactic => exact Mine.drop_head _ _); (conv => arg 5; pattern (@BEq.beq Value (@instBEqOfDecidableEq Value PySem.W.ZFast.zw7966671052430208091) _ _); tactic => exact Mine.zeq _)) | ((conv => enter [5,1,1,1,1,1,1,1]; simp only [Mine.bindp, Mine.bindp']); (conv => enter [5,1,1,1,1,1,1,1]; pattern (@List.contains Value (@instBEqOfDecidableEq Value PySem.W.XFast.xw7966671052430208091) (Value.ref _ :: _) _); tactic => exact Mine.cont_head _ _)) | ((conv => enter [5,1,1,1,1,1,1]; simp only [Mine.bindp, Mine.bindp']); (conv => enter [5,1,1,1,1,1,1]; pattern (@List.contains Value (@instBEqOfDecidableEq Value PySem.W.XFast.xw7966671052430208091) (Value.ref _ :: _) _); tactic => exact Mine.cont_head _ _)) | ((conv => enter [5,1,1,1,1,1]; simp only [Mine.bindp, Mine.bindp']); (conv => enter [5,1,1,1,1,1]; pattern (@List.contains Value (@instBEqOfDecidableEq Value PySem.W.XFast.xw7966671052430208091) (Value.ref _ :: _) _); tactic => exact Mine.cont_head _ _)) | ((conv => enter [5,1,1,1,1]; simp only [Mine.bindp, Mine.bindp']); (conv => enter [5,1,1,1,1]; pattern (@List.contains Value (@instBEqOfDecidableEq Value PySem.W.XFast.xw7966671052430208091) (Value.ref _ :: _) _); tactic => exact Mine.cont_head _ _)) | ((conv => enter [5,1,1,1]; simp only [Mine.bindp, Mine.bindp']); (conv => enter [5,1,1,1]; pattern (@List.contains Value (@instBEqOfDecidableEq Value PySem.W.XFast.xw7966671052430208091) (Value.ref _ :: _) _); tactic => exact Mine.cont_head _ _)) | ((conv => enter [5,1,1]; simp only [Mine.bindp, Mine.bindp']); (conv => enter [5,1,1]; pattern (@List.contains Value (@instBEqOfDecidableEq Value PySem.W.XFast.xw7966671052430208091) (Value.ref _ :: _) _); tactic => exact Mine.cont_head _ _)) | ((conv => enter [5,1]; simp only [Mine.bindp, Mine.bindp']); (conv => enter [5,1]; pattern (@List.contains Value (@instBEqOfDecidableEq Value PySem.W.XFast.xw7966671052430208091) (Value.ref _ :: _) _); tactic => exact Mine.cont_head _ _)) | ((conv => enter [5]; simp only [Mine.bindp, Mine.bindp']); (conv => enter [5]; pattern (@List.contains Value (@instBEqOfDecidableEq Value PySem.W.XFast.xw7966671052430208091) (Value.ref _ :: _) _); tactic => exact Mine.cont_head _ _)) | (conv => arg 5; pattern (List.filter _ (Value.ref _ :: _)); tactic => exact Mine.filt_obj _) | (rw [← PySem.W.XFast.xe7104952167334194321]) | (rw [Mine.chk_typenew]) | ((conv => arg 5; pattern (PySem.W.XFast.xw6838149247815620303 _); arg 1; whnf); (rw [Mine.madeBy_type])) | (conv => arg 5; pattern (PySem.Builtin.List.listSameRef _ _); tactic => first | exact Mine.same_on _ | exact Mine.same_off (by (first | (refine' Mine.Xl.neB (by assumption) (by first | (((repeat' first | exact Mine.At.head | refine' Mine.At.tail ?_ | refine' Mine.At.right ?_)); done) | fail) (by assumption)) | (refine' Mine.Xl.neB' (by assumption) (by first | (((repeat' first | exact Mine.At.head | refine' Mine.At.tail ?_ | refine' Mine.At.right ?_)); done) | fail) (by assumption)) | (refine' Mine.Xl.neN (by assumption) (by first | (((repeat' first | refine' Mine.Two.head ?_ | refine' Mine.Two.tail ?_ | exact Mine.At.head | refine' Mine.At.tail ?_ | refine' Mine.At.right ?_)); done) | fail)) | (refine' Mine.Xl.neN' (by assumption) (by first | (((repeat' first | refine' Mine.Two.head ?_ | refine' Mine.Two.tail ?_ | exact Mine.At.head | refine' Mine.At.tail ?_ | refine' Mine.At.right ?_)); done) | fail)))))) | ((with_unfolding_all conv => arg 5; whnf); (first
  | refine Mine.g_rule ?_ | refine Mine.g_at ?_ | refine Mine.g_point ?_ | refine Mine.g_ask ?_ | (refine Mine.g_fresh ?_; intro _)
  | ((with_reducible show Mine.G _ _ _ _ (Sem.load _ _ _) _ _); (conv => arg 5; arg 1; whnf); (try (conv => arg 5; arg 1; rw [Mine.succ_back])); refine' Mine.g_load (by first | ((first | (refine' Mine.Xl.get (by assumption) (by first | (((repeat' first | exact Mine.At.head | refine' Mine.At.tail ?_ | refine' Mine.At.right ?_)); done) | fail)) | exact Mine.Xl.old (by assumption) (by assumption) | exact Mine.Xl.getB (by assumption) (Mine.updF_in (by assumption)) | exact Mine.Xl.getB (by assumption) (by assumption) | exact Mine.Xl.old (by assumption) ((by assumption : Mine.KNo _ _) _ _ rfl rfl)); done) | fail) ?_)
  | ((with_reducible show Mine.G _ _ _ _ (Sem.alloc _ _) _ _); (rename Mine.Xl _ _ _ _ _ _ => kX); refine' Mine.g_alloc kX (by first | (((apply Mine.obj_is <;> walk_at "nf")); done) | fail) (by rfl) ?_; clear kX; intro _ _ _)
  | ((with_reducible show Mine.G _ _ _ _ (Sem.update _ _ _ _) _ _); (conv => arg 5; arg 1; whnf); (try (conv => arg 5; arg 1; rw [Mine.succ_back])); (rename Mine.Xl _ _ _ _ _ _ => kX); (first | (refine' Mine.g_upd kX (by first | (((repeat' first | exact Mine.At.head | refine' Mine.At.tail ?_ | refine' Mine.At.right ?_)); done) | fail) (by first | (((apply Mine.obj_is <;> walk_at "nf")); done) | fail) (by rfl) ?_) | (refine' Mine.g_updB kX (by assumption) (by first | (((apply Mine.obj_is <;> walk_at "nf")); done) | fail) (by rfl) ?_)); clear kX; intro _ kX'; (try (with_reducible show UpdF _ _ _ _ → _); (rename UpdF _ _ _ _ => kU); clear kU; intro _); (try dsimp only at kX'); revert kX'; intro _)
  | ((with_reducible show Mine.G _ _ _ _ (Sem.pure _) _ _); (conv => arg 5; arg 1; whnf); first
      | ((with_reducible show Mine.G _ _ _ _ (Sem.pure (PySem.Fin.done _)) _ _); refine' Mine.g_done' (by first | ((((conv => arg 1; whnf); first | (apply Mine.ret_is <;> walk_at "nf") | exact Mine.Is.same _)); done) | fail) ?_; (try refine Mine.g_ret ?_))
      | (refine' Mine.g_again' (by first | ((((conv => arg 1; whnf); first | (refine' Mine.cblt_is (by first | ((((try (conv => arg 1; simp [← PySem.W.SZ.e8921853674693946858x22, ← PySem.W.ZFast.ze16320311567567194475, toString, PySem.Str.toString, Nat.isValidChar])); exact Mine.Is.same _)); done) | fail) (by first | ((walk_at "nf"); done) | fail)) | (apply Mine.ccall_is <;> walk_at "nf") | (apply Mine.cfunc_is <;> walk_at "nf") | (apply Mine.cbody_is <;> walk_at "nf") | exact Mine.Is.same _)); done) | fail) (by first | ((first | exact Code.quiet_builtin _ (by decide +kernel) | rfl); done) | fail) ?_; (first | ((with_reducible show codeAny _ _ (Code.body _ _) _ _); skip) | ((with_reducible show codeAny _ _ (Code.call (Value.type "type") _) _ _); skip) | refine Mine.g_code ?_)))
  | ((with_reducible show Mine.G _ _ _ _ (Sem.call _ _ _ _ _) _ _); (conv => arg 5; arg 2; whnf); refine' Mine.g_call' (by first | ((((conv => arg 1; whnf); first | (refine' Mine.cblt_is (by first | ((((try (conv => arg 1; simp [← PySem.W.SZ.e8921853674693946858x22, ← PySem.W.ZFast.ze16320311567567194475, toString, PySem.Str.toString, Nat.isValidChar])); exact Mine.Is.same _)); done) | fail) (by first | ((walk_at "nf"); done) | fail)) | (apply Mine.ccall_is <;> walk_at "nf") | (apply Mine.cfunc_is <;> walk_at "nf") | (apply Mine.cbody_is <;> walk_at "nf") | exact Mine.Is.same _)); done) | fail) (by first | ((first | (intro h; cases h) | simp [byPass] | decide); done) | fail) ?_; (first | ((with_reducible show codeAny _ _ (Code.body _ _) _ _); skip) | ((with_reducible show codeAny _ _ (Code.call (Value.type "type") _) _ _); skip) | refine Mine.g_code ?_))
  | ((with_reducible show Mine.G _ _ _ _ (Sem.stack _) _ _); refine Mine.g_stack ?_; intro _ _ l'; (conv => arg 5; whnf); (try rw [Mine.near_eq l' rfl]); (try rw [Mine.over_eq l' rfl]); (try rw [Mine.warm_eq l' rfl]); clear l')))))
  rename Xl _ _ _ _ _ _ => kZ
  refine hret _ _ _ _ _ _ kZ (.mk _ _ _ _ _ _ _ _ _ _ _ _ _ _ _ _ _ _ _ _ _ _ _ _ _ _ _ _ _ _ _ _ _ _ _ _ _ _ _ _ _ _ _ _ _ (List.mem_append_left _ hK) (List.mem_append_left _ hD) (List.mem_append_left _ hM) (F0.sub fun q hq => List.mem_append_right _ (.tail _ (List.mem_append_left _ hq))) (F1.sub fun q hq => List.mem_append_right _ (.tail _ (List.mem_append_left _ hq))) (At.mem (by (repeat' first | exact Mine.At.head | refine' Mine.At.tail ?_ | refine' Mine.At.right ?_))))
end
section
theorem fields_two {vs : Array Value} {v : Value} (h : vs[1]? = some v) : ∃ y rs, vs = ⟨y :: v :: rs⟩ := by
  obtain ⟨l⟩ := vs
  match l, h with
  | y :: z :: rs, h => cases h; exact ⟨y, rs, rfl⟩
theorem xc_make {w : World} {h₀ : Heap} {L : Addr} {m : Str → Option Value} {base : List (Addr × Obj)} {s : Shared} {R : Result → Shared → Prop} (F : Fr h₀ L s.heap m) (N : News h₀ L s.heap base) (hb0 : 121 ≤ h₀.objs.size) (KN : KNo w.params h₀) (K cell : Nat) (fv : Value) (O : KeyObjs w.params base K cell fv) (x : Str) (t : Tok)
   (hret : ∀ (I d : Nat) od own h' tk', Xl h₀ L h' m base own → (I + 121, ⟨.ref (K + 121), some d, .plain, ⟨[some (.str x t)]⟩⟩) ∈ own → (d, od) ∈ own → R (.ok (.ret (.ref (I + 121)))) { s with heap := h', toks := tk' }) :
   codeAny (model Challenge.rw_il0109_01.row.prog w) xA0 (.call (.ref (K + 121)) ⟨[.str x t], []⟩) R s := by
  have X := Xl.start F N hb0
  clear N
  obtain ⟨mo, dK, md, bT, sl, sa, f0, f1, f2, f3, f4, f5, v0, v1, t0, t1, t2, e0, u0, u2, u3, u4, u5, u6, u7, u8, u9, u10, u11, u12, u13, u14, q0, q2, q3, q4, q5, q6, q7, q8, q9, q10, q11, q12, q13, hK, hD, hM, hF0, hF1, hC⟩ := O
  clear hF1 hC
  obtain ⟨n0, r0, c0, p0, w0, ⟨oc, od, odt, osl⟩, vs, x0, hF0, hV0, hVd, hVv⟩ := hF0
  replace hVd : odt = .fields vs := hVd
  subst hVd
  obtain ⟨y, rs, rfl⟩ := fields_two hVv
  obtain ⟨h, gs, d, tk, os⟩ := s
  dsimp only at X hret
  repeat (conv at hF0 in (mthOf _ 2) => whnf)
  try dsimp only at hF0
  refine g_code ?_
  repeat (((conv => arg 5; whnf); first | (first
  | refine Mine.g_rule ?_ | refine Mine.g_at ?_ | refine Mine.g_point ?_ | refine Mine.g_ask ?_ | (refine Mine.g_fresh ?_; intro _)
  | ((with_reducible show Mine.G _ _ _ _ (Sem.load _ _ _) _ _); (conv => arg 5; arg 1; whnf); (try (conv => arg 5; arg 1; rw [Mine.succ_back])); refine' Mine.g_load (by first | ((first | (refine' Mine.Xl.get (by assumption) (by first | (((repeat' first | exact Mine.At.head | refine' Mine.At.tail ?_ | refine' Mine.At.right ?_)); done) | fail)) | exact Mine.Xl.old (by assumption) (by assumption) | exact Mine.Xl.getB (by assumption) (Mine.updF_in (by assumption)) | exact Mine.Xl.getB (by assumption) (by assumption) | exact Mine.Xl.old (by assumption) ((by assumption : Mine.KNo _ _) _ _ rfl rfl)); done) | fail) ?_)
  | ((with_reducible show Mine.G _ _ _ _ (Sem.alloc _ _) _ _); (rename Mine.Xl _ _ _ _ _ _ => kX); refine' Mine.g_alloc kX (by first | (((apply Mine.obj_is <;> walk_at "nf")); done) | fail) (by rfl) ?_; clear kX; intro _ _ _)
  | ((with_reducible show Mine.G _ _ _ _ (Sem.update _ _ _ _) _ _); (conv => arg 5; arg 1; whnf); (try (conv => arg 5; arg 1; rw [Mine.succ_back])); (rename Mine.Xl _ _ _ _ _ _ => kX); (first | (refine' Mine.g_upd kX (by first | (((repeat' first | exact Mine.At.head | refine' Mine.At.tail ?_ | refine' Mine.At.right ?_)); done) | fail) (by first | (((apply Mine.obj_is <;> walk_at "nf")); done) | fail) (by rfl) ?_) | (refine' Mine.g_updB kX (by assumption) (by first | (((apply Mine.obj_is <;> walk_at "nf")); done) | fail) (by rfl) ?_)); clear kX; intro _ kX'; (try (with_reducible show UpdF _ _ _ _ → _); (rename UpdF _ _ _ _ => kU); clear kU; intro _); (try dsimp only at kX'); revert kX'; intro _)
  | ((with_reducible show Mine.G _ _ _ _ (Sem.pure _) _ _); (conv => arg 5; arg 1; whnf); first
      | ((with_reducible show Mine.G _ _ _ _ (Sem.pure (PySem.Fin.done _)) _ _); refine' Mine.g_done' (by first | ((((conv => arg 1; whnf); first | (apply Mine.ret_is <;> walk_at "nf") | exact Mine.Is.same _)); done) | fail) ?_; (try refine Mine.g_ret ?_))
      | (refine' Mine.g_again' (by first | ((((conv => arg 1; whnf); first | (refine' Mine.cblt_is (by first | ((((try (conv => arg 1; simp [← PySem.W.SZ.e8921853674693946858x22, ← PySem.W.ZFast.ze16320311567567194475, toString, PySem.Str.toString, Nat.isValidChar])); exact Mine.Is.same _)); done) | fail) (by first | ((walk_at "nf"); done) | fail)) | (apply Mine.ccall_is <;> walk_at "nf") | (apply Mine.cfunc_is <;> walk_at "nf") | (apply Mine.cbody_is <;> walk_at "nf") | exact Mine.Is.same _)); done) | fail) (by first | ((first | exact Code.quiet_builtin _ (by decide +kernel) | rfl); done) | fail) ?_; (first | ((with_reducible show codeAny _ _ (Code.builtin "super.__getattribute__" _) _ _); refine Mine.g_codeZ ?_) | refine Mine.g_code ?_)))
  | ((with_reducible show Mine.G _ _ _ _ (Sem.call _ _ _ _ _) _ _); (conv => arg 5; arg 2; whnf); refine' Mine.g_call' (by first | ((((conv => arg 1; whnf); first | (refine' Mine.cblt_is (by first | ((((try (conv => arg 1; simp [← PySem.W.SZ.e8921853674693946858x22, ← PySem.W.ZFast.ze16320311567567194475, toString, PySem.Str.toString, Nat.isValidChar])); exact Mine.Is.same _)); done) | fail) (by first | ((walk_at "nf"); done) | fail)) | (apply Mine.ccall_is <;> walk_at "nf") | (apply Mine.cfunc_is <;> walk_at "nf") | (apply Mine.cbody_is <;> walk_at "nf") | exact Mine.Is.same _)); done) | fail) (by first | ((first | (intro h; cases h) | simp [byPass] | decide); done) | fail) ?_; (first | ((with_reducible show codeAny _ _ (Code.builtin "super.__getattribute__" _) _ _); refine Mine.g_codeZ ?_) | refine Mine.g_code ?_))
  | ((with_reducible show Mine.G _ _ _ _ (Sem.stack _) _ _); refine Mine.g_stack ?_; intro _ _ l'; (conv => arg 5; whnf); (try rw [Mine.near_eq l' rfl]); (try rw [Mine.over_eq l' rfl]); (try rw [Mine.warm_eq l' rfl]); clear l')) | (first | ((conv => arg 5; pattern (List.drop 1 (List.dropWhile _ _)); tactic => exact Mine.drop_head _ _); (conv => arg 5; pattern (@BEq.beq Value (@instBEqOfDecidableEq Value PySem.W.ZFast.zw7966671052430208091) _ _); tactic => exact Mine.zeq _)) | ((conv => enter [5,1,1,1,1,1,1,1]; simp only [Mine.bindp, Mine.bindp']); (conv => enter [5,1,1,1,1,1,1,1]; pattern (@List.contains Value (@instBEqOfDecidableEq Value PySem.W.XFast.xw7966671052430208091) (Value.ref _ :: _) _); tactic => exact Mine.cont_head _ _)) | ((conv => enter [5,1,1,1,1,1,1]; simp only [Mine.bindp, Mine.bindp']); (conv => enter [5,1,1,1,1,1,1]; pattern (@List.contains Value (@instBEqOfDecidableEq Value PySem.W.XFast.xw7966671052430208091) (Value.ref _ :: _) _); tactic => exact Mine.cont_head _ _)) | ((conv => enter [5,1,1,1,1,1]; simp only [Mine.bindp, Mine.bindp']); (conv => enter [5,1,1,1,1,1]; pattern (@List.contains Value (@instBEqOfDecidableEq Value PySem.W.XFast.xw7966671052430208091) (Value.ref _ :: _) _); tactic => exact Mine.cont_head _ _)) | ((conv => enter [5,1,1,1,1]; simp only [Mine.bindp, Mine.bindp']); (conv => enter [5,1,1,1,1]; pattern (@List.contains Value (@instBEqOfDecidableEq Value PySem.W.XFast.xw7966671052430208091) (Value.ref _ :: _) _); tactic => exact Mine.cont_head _ _)) | ((conv => enter [5,1,1,1]; simp only [Mine.bindp, Mine.bindp']); (conv => enter [5,1,1,1]; pattern (@List.contains Value (@instBEqOfDecidableEq Value PySem.W.XFast.xw7966671052430208091) (Value.ref _ :: _) _); tactic => exact Mine.cont_head _ _)) | ((conv => enter [5,1,1]; simp only [Mine.bindp, Mine.bindp']); (conv => enter [5,1,1]; pattern (@List.contains Value (@instBEqOfDecidableEq Value PySem.W.XFast.xw7966671052430208091) (Value.ref _ :: _) _); tactic => exact Mine.cont_head _ _)) | ((conv => enter [5,1]; simp only [Mine.bindp, Mine.bindp']); (conv => enter [5,1]; pattern (@List.contains Value (@instBEqOfDecidableEq Value PySem.W.XFast.xw7966671052430208091) (Value.ref _ :: _) _); tactic => exact Mine.cont_head _ _)) | ((conv => enter [5]; simp only [Mine.bindp, Mine.bindp']); (conv => enter [5]; pattern (@List.contains Value (@instBEqOfDecidableEq Value PySem.W.XFast.xw7966671052430208091) (Value.ref _ :: _) _); tactic => exact Mine.cont_head _ _)) | (conv => arg 5; pattern (List.filter _ (Value.ref _ :: _)); tactic => exact Mine.filt_obj _) | (rw [← PySem.W.XFast.xe7104952167334194321]) | (rw [Mine.chk_typenew]) | ((conv => arg 5; pattern (PySem.W.XFast.xw6838149247815620303 _); arg 1; whnf); (rw [Mine.madeBy_type])) | (conv => arg 5; pattern (PySem.Builtin.List.listSameRef _ _); tactic => first | exact Mine.same_on _ | exact Mine.same_off (by (first | (refine' Mine.Xl.neB (by assumption) (by first | (((repeat' first | exact Mine.At.head | refine' Mine.At.tail ?_ | refine' Mine.At.right ?_)); done) | fail) (by assumption)) | (refine' Mine.Xl.neB' (by assumption) (by first | (((repeat' first | exact Mine.At.head | refine' Mine.At.tail ?_ | refine' Mine.At.right ?_)); done) | fail) (by assumption)) | (refine' Mine.Xl.neN (by assumption) (by first | (((repeat' first | refine' Mine.Two.head ?_ | refine' Mine.Two.tail ?_ | exact Mine.At.head | refine' Mine.At.tail ?_ | refine' Mine.At.right ?_)); done) | fail)) | (refine' Mine.Xl.neN' (by assumption) (by first | (((repeat' first | refine' Mine.Two.head ?_ | refine' Mine.Two.tail ?_ | exact Mine.At.head | refine' Mine.At.tail ?_ | refine' Mine.At.right ?_)); done) | fail)))))) | ((with_unfolding_all conv => arg 5; whnf); (first
  | refine Mine.g_rule ?_ | refine Mine.g_at ?_ | refine Mine.g_point ?_ | refine Mine.g_ask ?_ | (refine Mine.g_fresh ?_; intro _)
  | ((with_reducible show Mine.G _ _ _ _ (Sem.load _ _ _) _ _); (conv => arg 5; arg 1; whnf); (try (conv => arg 5; arg 1; rw [Mine.succ_back])); refine' Mine.g_load (by first | ((first | (refine' Mine.Xl.get (by assumption) (by first | (((repeat' first | exact Mine.At.head | refine' Mine.At.tail ?_ | refine' Mine.At.right ?_)); done) | fail)) | exact Mine.Xl.old (by assumption) (by assumption) | exact Mine.Xl.getB (by assumption) (Mine.updF_in (by assumption)) | exact Mine.Xl.getB (by assumption) (by assumption) | exact Mine.Xl.old (by assumption) ((by assumption : Mine.KNo _ _) _ _ rfl rfl)); done) | fail) ?_)
  | ((with_reducible show Mine.G _ _ _ _ (Sem.alloc _ _) _ _); (rename Mine.Xl _ _ _ _ _ _ => kX); refine' Mine.g_alloc kX (by first | (((apply Mine.obj_is <;> walk_at "nf")); done) | fail) (by rfl) ?_; clear kX; intro _ _ _)
  | ((with_reducible show Mine.G _ _ _ _ (Sem.update _ _ _ _) _ _); (conv => arg 5; arg 1; whnf); (try (conv => arg 5; arg 1; rw [Mine.succ_back])); (rename Mine.Xl _ _ _ _ _ _ => kX); (first | (refine' Mine.g_upd kX (by first | (((repeat' first | exact Mine.At.head | refine' Mine.At.tail ?_ | refine' Mine.At.right ?_)); done) | fail) (by first | (((apply Mine.obj_is <;> walk_at "nf")); done) | fail) (by rfl) ?_) | (refine' Mine.g_updB kX (by assumption) (by first | (((apply Mine.obj_is <;> walk_at "nf")); done) | fail) (by rfl) ?_)); clear kX; intro _ kX'; (try (with_reducible show UpdF _ _ _ _ → _); (rename UpdF _ _ _ _ => kU); clear kU; intro _); (try dsimp only at kX'); revert kX'; intro _)
  | ((with_reducible show Mine.G _ _ _ _ (Sem.pure _) _ _); (conv => arg 5; arg 1; whnf); first
      | ((with_reducible show Mine.G _ _ _ _ (Sem.pure (PySem.Fin.done _)) _ _); refine' Mine.g_done' (by first | ((((conv => arg 1; whnf); first | (apply Mine.ret_is <;> walk_at "nf") | exact Mine.Is.same _)); done) | fail) ?_; (try refine Mine.g_ret ?_))
      | (refine' Mine.g_again' (by first | ((((conv => arg 1; whnf); first | (refine' Mine.cblt_is (by first | ((((try (conv => arg 1; simp [← PySem.W.SZ.e8921853674693946858x22, ← PySem.W.ZFast.ze16320311567567194475, toString, PySem.Str.toString, Nat.isValidChar])); exact Mine.Is.same _)); done) | fail) (by first | ((walk_at "nf"); done) | fail)) | (apply Mine.ccall_is <;> walk_at "nf") | (apply Mine.cfunc_is <;> walk_at "nf") | (apply Mine.cbody_is <;> walk_at "nf") | exact Mine.Is.same _)); done) | fail) (by first | ((first | exact Code.quiet_builtin _ (by decide +kernel) | rfl); done) | fail) ?_; (first | ((with_reducible show codeAny _ _ (Code.builtin "super.__getattribute__" _) _ _); refine Mine.g_codeZ ?_) | refine Mine.g_code ?_)))
  | ((with_reducible show Mine.G _ _ _ _ (Sem.call _ _ _ _ _) _ _); (conv => arg 5; arg 2; whnf); refine' Mine.g_call' (by first | ((((conv => arg 1; whnf); first | (refine' Mine.cblt_is (by first | ((((try (conv => arg 1; simp [← PySem.W.SZ.e8921853674693946858x22, ← PySem.W.ZFast.ze16320311567567194475, toString, PySem.Str.toString, Nat.isValidChar])); exact Mine.Is.same _)); done) | fail) (by first | ((walk_at "nf"); done) | fail)) | (apply Mine.ccall_is <;> walk_at "nf") | (apply Mine.cfunc_is <;> walk_at "nf") | (apply Mine.cbody_is <;> walk_at "nf") | exact Mine.Is.same _)); done) | fail) (by first | ((first | (intro h; cases h) | simp [byPass] | decide); done) | fail) ?_; (first | ((with_reducible show codeAny _ _ (Code.builtin "super.__getattribute__" _) _ _); refine Mine.g_codeZ ?_) | refine Mine.g_code ?_))
  | ((with_reducible show Mine.G _ _ _ _ (Sem.stack _) _ _); refine Mine.g_stack ?_; intro _ _ l'; (conv => arg 5; whnf); (try rw [Mine.near_eq l' rfl]); (try rw [Mine.over_eq l' rfl]); (try rw [Mine.warm_eq l' rfl]); clear l')))))
  rename Xl _ _ _ _ _ _ => kX
  refine' hret _ _ _ _ _ _ kX ?zm ?zd
  case zm => walk_at "mem"
  case zd => walk_at "mem"
end
end
section
/-- what the class K gives, as facts of a small written part -/
structure KeyUse (P : Params) (base : List (Addr × Obj)) (K cell : Nat) (fv : Value) (Kf : Frag) (md f1 v1 : Nat) : Prop where
  ins : ∀ h : Heap, (∀ p ∈ base, h.get? p.1 = some p.2) → Kf.In h
  lt : findIn Kf (.ref (K + 121)) (Str.ofString "__lt__") = some (some (.ref (f1 + 121)))
  fn : isFn Kf (.ref (f1 + 121)) = true
  plain : plainGet Kf (K + 121) (Str.ofString "obj") = true
  cls : isClsIn Kf (K + 121) = true
  obj : findIn Kf (.ref (K + 121)) (Str.ofString "obj") = some (some (.ref (md + 121)))
  get : specialIn Kf (.ref (md + 121)) (Str.ofString "__get__") = some (some (.builtin "member_descriptor.__get__"))
  takes : takesIn Kf (.ref (md + 121)) = some true
  slot : slotIn Kf (md + 121) (K + 121) = some 0
  cellm : (cell + 121, (⟨.type "cell", none, .cell (some fv), ⟨[]⟩⟩ : Obj)) ∈ base
  fm : IsMth P 3 [(Str.ofString "mycmp", cell + 121)] base f1 v1
noncomputable def nsOf (es : Array DictEntry) (x : Str) : Option (Option Value) := match es.toList.find? (·.key.isStr x) with
      | some e => some (some e.val)
      | none => if es.toList.any (·.refKey) then none else some none
theorem ns_of {Kf : Frag} {ns : Addr} {c : Value} {d : Option Addr} {es : Array DictEntry} {n : Nat} {sl : Array (Option Value)} (l : Kf.lookup ns = some ⟨c, d, .dict es n, sl⟩) {x : Str} {r : Option (Option Value)} (e : nsOf es x = r) : nsIn Kf ns x = r := by
  unfold nsIn
  rw [l]
  exact e
theorem find_own {Kf : Frag} {C : Addr} {c : Value} {d : Option Addr} {cd : ClassData} {sl : Array (Option Value)} (l : Kf.lookup C = some ⟨c, d, .cls cd, sl⟩) {x : Str} {r : Value} (hm : cd.mro = [.ref C, .type "object"]) (e : nsIn Kf cd.ns x = some (some r)) : findIn Kf (.ref C) x = some (some r) := by
  have e1 : findIn Kf (.ref C) x = alongIn Kf x cd.mro := by
    simp only [findIn, l]
  have e2 : ownIn Kf x (.ref C) = some (some r) := by simp only [ownIn, l, e]
  rw [e1, hm]
  simp only [alongIn, e2]
theorem find_obj {Kf : Frag} {C : Addr} {c : Value} {d : Option Addr} {cd : ClassData} {sl : Array (Option Value)} (l : Kf.lookup C = some ⟨c, d, .cls cd, sl⟩) {x : Str} {r : Option Value} (hm : cd.mro = [.ref C, .type "object"]) (e : nsIn Kf cd.ns x = some none) (e3 : fastBuiltinOwn "object" x = r) : findIn Kf (.ref C) x = some r := by
  have e1 : findIn Kf (.ref C) x = alongIn Kf x cd.mro := by
    simp only [findIn, l]
  have e2 : ownIn Kf x (.ref C) = some none := by simp only [ownIn, l, e]
  rw [e1, hm]
  have e4 : ownIn Kf x (.type "object") = some r := by simp only [ownIn, e3]
  simp only [alongIn, e2, e4]
  cases r <;> rfl
theorem type_ref {Kf : Frag} {C : Addr} {o : Obj} (l : Kf.lookup C = some o) : typeIn Kf (.ref C) = some o.cls := by simp only [typeIn, l, Option.map_some]
theorem special_ref {Kf : Frag} {C : Addr} {n : String} {x : Str} {r : Option (Option Value)} (l : typeIn Kf (.ref C) = some (.type n)) (e : fastLookup n x = r) : specialIn Kf (.ref C) x = r := by simp only [specialIn, l, Option.bind_some, findIn, e]
theorem split_mem {a : Addr} {o : Obj} {base : List (Addr × Obj)} (h : (a, o) ∈ base) : ∃ o', (a, o') ∈ base ∧ o' = o := ⟨o, h, rfl⟩
theorem news_apart {h₀ : Heap} {L : Addr} {h : Heap} {base : List (Addr × Obj)} (N : News h₀ L h base) {a b : Addr} {o o' : Obj} (ha : (a, o) ∈ base) (hb : (b, o') ∈ base) (e : o.data ≠ o'.data) : (a == b) = false := by
  have h1 := (N _ ha).1
  have h2 := (N _ hb).1
  refine beq_eq_false_iff_ne.mpr fun q => e ?_
  dsimp only at h1 h2
  rw [q, h2] at h1
  cases h1; rfl
theorem key_use {P : Params} {h₀ : Heap} {L : Addr} {h : Heap} {base : List (Addr × Obj)} {K cell : Nat} {fv : Value} (N : News h₀ L h base) (O : KeyObjs P base K cell fv) : ∃ Kf md f1 v1, KeyUse P base K cell fv Kf md f1 v1 := by
  obtain ⟨mo, dK, md, bT, sl, sa, f0, f1, f2, f3, f4, f5, v0, v1, t0, t1, t2, e0, u0, u2, u3, u4, u5, u6, u7, u8, u9, u10, u11, u12, u13, u14, q0, q2, q3, q4, q5, q6, q7, q8, q9, q10, q11, q12, q13, hK, hD, hM, hF0, hFm, hC⟩ := O
  clear hF0
  obtain ⟨_, _, _, _, _, _, _, _, hF1, _, _, _⟩ := id hFm
  obtain ⟨oK, hK, eK⟩ := split_mem hK
  obtain ⟨oD, hD, eD⟩ := split_mem hD
  obtain ⟨oM, hM, eM⟩ := split_mem hM
  obtain ⟨oF, hF1, eF⟩ := split_mem hF1
  have d1 : (dK + 121 == K + 121) = false := news_apart N hD hK (fun e => by rw [eK, eD] at e; cases e)
  have d2 : (md + 121 == K + 121) = false := news_apart N hM hK (fun e => by rw [eK, eM] at e; cases e)
  have d3 : (md + 121 == dK + 121) = false := news_apart N hM hD (fun e => by rw [eD, eM] at e; cases e)
  have d4 : (f1 + 121 == K + 121) = false := news_apart N hF1 hK (fun e => by rw [eK, eF] at e; cases e)
  have d5 : (f1 + 121 == dK + 121) = false := news_apart N hF1 hD (fun e => by rw [eD, eF] at e; cases e)
  have d6 : (f1 + 121 == md + 121) = false := news_apart N hF1 hM (fun e => by rw [eM, eF] at e; cases e)
  obtain ⟨Kf, eKf⟩ : ∃ Kf : Frag, Kf = [(K + 121, oK), (dK + 121, oD), (md + 121, oM), (f1 + 121, oF)] := ⟨_, rfl⟩
  have l1 : Kf.lookup (K + 121) = some oK := by simp only [eKf, List.lookup_cons, beq_self_eq_true]
  have l2 : Kf.lookup (dK + 121) = some oD := by simp only [eKf, List.lookup_cons, beq_self_eq_true, d1]
  have l3 : Kf.lookup (md + 121) = some oM := by simp only [eKf, List.lookup_cons, beq_self_eq_true, d2, d3]
  have l4 : Kf.lookup (f1 + 121) = some oF := by simp only [eKf, List.lookup_cons, beq_self_eq_true, d4, d5, d6]
  have hin : ∀ h : Heap, (∀ p ∈ base, h.get? p.1 = some p.2) → Kf.In h := by
    intro h N a o e
    have hm := mem_of_lookupK e
    rw [eKf] at hm
    rcases List.mem_cons.mp hm with q | hm
    · cases q; exact N _ hK
    rcases List.mem_cons.mp hm with q | hm
    · cases q; exact N _ hD
    rcases List.mem_cons.mp hm with q | hm
    · cases q; exact N _ hM
    rcases List.mem_cons.mp hm with q | hm
    · cases q; exact N _ hF1
    · cases hm
  clear eKf d1 d2 d3 d4 d5 d6
  subst eK eD eM eF
  have n1 := fun x r => ns_of (x := x) (r := r) l2
  have n2 := fun x r => find_own (x := x) (r := r) l1 rfl
  have n3 := fun x r => find_obj (x := x) (r := r) l1 rfl
  have tM : typeIn Kf (.ref (md + 121)) = some (.type "member_descriptor") := type_ref l3
  refine ⟨Kf, md, f1, v1, ⟨hin, ?_, ?_, ?_, ?_, ?_, ?_, ?_, ?_, hC, hFm⟩⟩
  · exact n2 _ _ (n1 _ _ (by kernel_rfl))
  · unfold isFn
    rw [type_ref l4]
    show (some (Value.type "function") == some (Value.type "function")) = true
    decide
  · unfold plainGet
    rw [n3 (Str.ofString "__getattribute__") (some (.builtin "object.__getattribute__")) (n1 _ _ (by kernel_rfl)) (by kernel_rfl), n3 (Str.ofString "__getattr__") none (n1 _ _ (by kernel_rfl)) (by kernel_rfl)]
    decide +kernel
  · unfold isClsIn clsIn
    rw [l1]
    rfl
  · exact n2 _ _ (n1 _ _ (by kernel_rfl))
  · exact special_ref tM (by kernel_rfl)
  · unfold takesIn
    rw [special_ref (x := Str.ofString "__set__") (r := some (some (.builtin "member_descriptor.__set__"))) tM (by kernel_rfl)]
  · unfold slotIn recIn clsIn
    rw [l1, l3]
    dsimp only
    rw [if_pos (by rfl)]
    dsimp only
    have hin : ([.ref (K + 121), .type "object"] : List Value).contains (.ref (K + 121)) = true := by simp
    rw [hin]
    rfl
theorem KeyUse.inN {P : Params} {h₀ h : Heap} {L : Addr} {base : List (Addr × Obj)} {K cell : Nat} {fv : Value} {Kf : Frag} {md f1 v1 : Nat} (U : KeyUse P base K cell fv Kf md f1 v1) (N : News h₀ L h base) : Kf.In h := U.ins h fun p hp => (N p hp).1
section
variable {prog : Program} {w : World} {A : Around} {E : Value → Shared → Prop} {s : Shared} {h₀ : Heap} {L : Addr} {base : List (Addr × Obj)} {P : Params} {K cell : Nat} {fv : Value} {Kf : Frag} {md f1 v1 : Nat}
/-- the slot of an object of the class -/
theorem key_obj {I : Addr} {d : Addr} {od : Obj} {v : Value} {expr : Bool} {Q : Value → Shared → Prop} (U : KeyUse P base K cell fv Kf md f1 v1) (N : News h₀ L s.heap base) (hI : (I, (⟨.ref (K + 121), some d, .plain, ⟨[some v]⟩⟩ : Obj)) ∈ base) (hd : (d, od) ∈ base) (hh : handedIn v = true)
    (h : Q v { s with toks := s.toks + 1 }) : wpAny (model prog w) A (getAttr (.ref I) (Str.ofString "obj") expr) Q E s := by
  have X := U.inN N
  have It := InstAt.of_news N hI hd
  exact get_bind X It (plainGet_of U.plain).1 (findObj_data U.cls U.obj U.get U.takes) (plainGet_of U.plain).2 (wpAny_call (slot_get (s := { s with toks := s.toks + 1 }) X It U.slot rfl (handed_on hh h)))
/-- the comparison of two instances, as a sort asks it -/
theorem key_lt {I d : Addr} {od : Obj} {sl : Array (Option Value)} {b : Value} {Q : Bool → Shared → Prop} (hu : A.units < cLine) (U : KeyUse P base K cell fv Kf md f1 v1) (N : News h₀ L s.heap base) (hI : (I, (⟨.ref (K + 121), some d, .plain, sl⟩ : Obj)) ∈ base) (hd : (d, od) ∈ base)
    (h : wpAny (model prog w) A (call (.ref (f1 + 121)) [.ref I, b]) (PySem.W.BoolBack Q) E s) : wpAny (model prog w) A (keyLt' oneType' (.ref I) b) Q E s := by
  rw [keyLt'_oneType, oneLt'_eq]
  simp only [if_true]
  refine wpAny_bind (wpAny_cRoomFor hu ?_)
  refine wpAny_bind (ifBound_K (U.inN N) (InstAt.of_news N hI hd) U.lt U.fn (wpAny_mono h (fun v s' hv => ?_) fun _ _ e => e))
  cases v <;> first | exact hv.elim | skip
  exact wpAny_truthy_bool hv
end
end
section
noncomputable def lamOf (P : Params) : Arguments × Expr × Scope := match (hx.heap_1 P).lookup 120 with
  | some ⟨_, _, .func fd, _⟩ => (match fd.body with
    | .stmts (_ :: _ :: _ :: _ :: _ :: .Assign _ (.Call _ _ (⟨_, .Call _ (.Lambda a b sc _ :: _) _ _, _⟩ :: _) _) _ :: _) => (a, b, sc)
    | _ => default)
  | _ => default
theorem c_lt {w : World} {p : Program} {loose : List Str} {mean : ExcName → Option Value} {mg mb : Str → Option Value}
  (dp un : Nat) (gd : Option (List Code)) (cn : Str) (cs : Scope) (a : Addr) (ccd : Value) (cl : List (Str × Addr)) (outer : List Env) (A₀ : Around) (base h₀ : Heap) (L : Addr) (m : Str → Option Value) (news : List (Addr × Obj)) (s : Shared)
    (Q : Bool → Shared → Prop) (E : Value → Shared → Prop)
    (B : Below A₀ base outer h₀) (F : Fr h₀ L s.heap m) (KX : (hd.heap_1 w.params).In h₀) (Cd : CodeHd base 34 30) (T : Top p loose mean mg mb h₀) (hk : cs.kind = .function) (hd : dp + 10 < recursionLimit) (hu : un + 80 < cLine)
    (N : News h₀ L s.heap news) (K cell Fa Lc : Nat) (Kf : Frag) (md f1 v1 : Nat) (U : KeyUse w.params news K cell (.ref Fa) Kf md f1 v1)
    (nm qn : Str) (pm ctv : Value) (oc : Obj) (vs : Array Value) (tq : Tok) (hL : (Fa, kla_obj nm qn (lamOf w.params).1 (lamOf w.params).2.1 (lamOf w.params).2.2 [] pm Lc ctv) ∈ news) (hLc : (Lc, oc) ∈ news) (hLd : oc.data = .fields vs) (hLv : vs[1]? = some (.str qn tq))
    (I J dI dJ : Addr) (x y : Str) (t u : Tok) (oI oJ : Obj)
    (hI : (I, (⟨.ref (K + 121), some dI, .plain, ⟨[some (.str x t)]⟩⟩ : Obj)) ∈ news) (hdI : (dI, oI) ∈ news) (hJ : (J, (⟨.ref (K + 121), some dJ, .plain, ⟨[some (.str y u)]⟩⟩ : Obj)) ∈ news) (hdJ : (dJ, oJ) ∈ news) (hx : x.length ≤ 10) (hy : y.length ≤ 10)
    (hret : ∀ h' tk', Fr h₀ L h' m → News h₀ L h' news → Q (decide (x.length < y.length)) { s with heap := h', toks := tk' }) :
    wpAny (model Challenge.rw_il0109_01.row.prog w) (ktrTop dp un gd cn cs L a ccd cl outer) (keyLt' oneType' (.ref I) (.ref J)) Q E s := by
  refine key_lt (by exact Nat.lt_of_le_of_lt (Nat.le_add_right _ _) hu) U N hI hdI ?_
  refine wpAny_call ?_
  obtain ⟨n1, r1, c1, p1, w1, oc1, vs1, t1, hF1, hV1, hVd, hVv⟩ := U.fm
  have hC := U.cellm
  repeat (conv at hF1 in (mthOf _ 3) => whnf)
  try dsimp only at hF1
  repeat (conv at hL in (lamOf _) => whnf)
  try dsimp only at hL
  revert KX; k_fill; intro KX
  refine' code_nest ?k1 ?k2 ?k3 ?k4 ?k5 ?kA ?kF ?kK ?k6 ?k7 ?k8 ?k9 ?kB ?_ ?c2 ?c3 ?c4 ?c5
  case kA => exact rfl
  case kF => exact rfl
  case kK => exact hk
  case k1 => exact B
  case k2 => exact F
  case k3 => exact KX
  case k4 => exact N
  case k5 => exact T
  case k6 => exact hF1
  case k7 => exact codeRec_news N hV1 hVd hVv
  case k8 => ktr_room
  case k9 => exact BindsTo.of_eq rfl
  case c5 => decide
  case kB => exact locs rfl
  case c2 => exact rfl
  case c3 => exact rfl
  case c4 => exact rfl
  intro g' L' h' FG' F' N' B' X' T'
  (repeat' first | ((with_reducible show wpAny _ _ (getAttr (Value.ref _) _ _) _ _ _); (rename News _ _ _ _ => hN'); k_dflt (refine' Mine.key_obj (by assumption) hN' (by assumption) (by assumption) (by rfl) ?_); (try dsimp only)) | ((with_reducible show wpAny _ _ (eval (Expr.Name (Str.ofString "mycmp") _) _) _ _ _); (rename News _ _ _ _ => hN'); k_dflt (refine' nameX_F hN' (by with_unfolding_all rfl) (by assumption) (by rfl) ?_ (by rfl) (by rfl))) | ((with_reducible show wpAny _ _ (call (Value.builtin "len") [Value.ref _]) _ _ _); k_dflt (refine' len_list (by first | ((exact News.isList (by k_asm) (by walk_at "mem")); done) | fail) (by first | ((walk_at "len"); done) | fail) ?_); (try simp only [List.size_toArray])) | walk_at "g")
  rename Fr h₀ _ _ _ => kF
  rename News h₀ _ _ _ => kN
  refine Eq.mp (congrArg (fun b => Q b _) ?_) (hret _ _ kF kN)
  by_cases h1 : x.length < y.length
  · have h2 : ¬ (y.length < x.length) := by walk_at "o"
    simp [h1, h2]
    decide
  · by_cases h2 : y.length < x.length
    · simp [h1, h2]
      decide
    · simp [h1, h2]
end
section
theorem slice_is {prog : Program} {w : World} {A : Around} {E : Value → Shared → Prop} {s : Shared} {h₀ : Heap} {L : Addr} {m : Str → Option Value} {news : List (Addr × Obj)} {l : Addr} {vs zs : List Value} {vl vu : Value} {lo hi : Option Int} {value slice : Expr} {Q : Value → Shared → Prop} (F : Fr h₀ L s.heap m) (N : News h₀ L s.heap news) (hl : s.heap.IsList l vs.toArray) (pl : IsPart vl lo) (pu : IsPart vu hi)
    (e : slicePick vs.toArray lo hi none = zs.toArray)
    (h : ∀ D h', Fr h₀ L h' m → News h₀ L h' ((D, listOf zs.toArray 0) :: news) → (∀ p ∈ news, p.1 < D) → Q (.ref D) { s with heap := h' })
    (hs : subscripted slice false (.ref l) (.ref s.heap.objs.size) = operate [.ref s.heap.objs.size, .ref l] (getItem (.ref l) (.ref s.heap.objs.size))) (ht : ∀ r, letTemporaryGo value (.ref l) r = pure ()) (hz : vs.length ≤ 10000) :
    wpAny (model prog w) A (subscriptTail value slice (.ref l) (.ref s.heap.objs.size)) Q E { s with heap := s.heap.push { cls := .type "slice", data := .fields #[vl, vu, .none] } } := by
  have hsz : sizeLine = 16777216 := sizeLine_eq
  refine kmk_slice F N hl pl pu (fun D h' F' N' l1 => h D h' F' ?_ l1) hs ht (by rw [List.size_toArray]; walk_at "o")
  rw [← e]
  exact N'
noncomputable def piecesL : List Str := [Str.ofString "", Str.ofString "a", Str.ofString "ab", Str.ofString "b", Str.ofString "\u00ff", Str.ofString "a\n", Str.ofString "abc", Str.ofString "\x00"]
noncomputable def consts : List Int := [1, 26, 11, 39, 4, 18, 29, 45, 6, 23]
noncomputable def pieceOf (x : Int) : Str := piecesL.getD (x.fmod 8).toNat Str.empty
noncomputable def texts0 (l : List Int) : List Str := (l.filter fun x => (x.fdiv 8).fmod 3 != 1).map pieceOf
noncomputable def texts1 (l : List Int) : List Str := (l.filter fun x => (x.fdiv 8).fmod 3 != 0).map pieceOf
theorem fmod8 (x : Int) : 0 ≤ x.fmod 8 ∧ x.fmod 8 < 8 := by
  rw [Int.fmod_eq_emod_of_nonneg _ (by decide)]
  walk_at "o"
theorem piece_at {prog : Program} {w : World} {A : Around} {E : Value → Shared → Prop} {s : Shared} {l : Addr} {pv : List Value} {x : Int} {u : Tok} {value slice : Expr} {Q : Value → Shared → Prop} (hl : s.heap.IsList l pv.toArray) (hw : StrsAre pv piecesL) (h : ∀ t', Q (.str (pieceOf x) t') s)
    (hs : subscripted slice false (.ref l) (.int (x.fmod 8) u) = operate [.ref l, .int (x.fmod 8) u] (getItem (.ref l) (.int (x.fmod 8) u)) := by with_unfolding_all rfl) :
    wpAny (model prog w) A (subscriptTail value slice (.ref l) (.int (x.fmod 8) u)) Q E s := by
  obtain ⟨h0, h1⟩ := fmod8 x
  have hlen : piecesL.length = 8 := rfl
  have hlt : (x.fmod 8).toNat < piecesL.length := by walk_at "o"
  obtain ⟨t', e⟩ := hw.get (x.fmod 8).toNat (pieceOf x) (by unfold pieceOf; rw [List.getD_eq_getElem?_getD, List.getElem?_eq_getElem hlt]; rfl)
  exact tail_any hl.typeIs slot_list_getitem.lookup (wpAny_getItem_list hl h0 (by walk_at "o") (x := .str _ t') (by simpa using e) (h t')) hs
theorem texts0_len (l : List Int) : (texts0 l).length ≤ l.length := by
  unfold texts0
  rw [List.length_map]
  exact List.length_filter_le _ _
theorem texts1_len (l : List Int) : (texts1 l).length ≤ l.length := by
  unfold texts1
  rw [List.length_map]
  exact List.length_filter_le _ _
theorem cut_len (ns : List Int) (i : Nat) : ((ns.take 10 ++ consts).take i).length ≤ 20 := by
  rw [List.length_take, List.length_append, List.length_take]
  have : consts.length = 10 := rfl
  walk_at "o"
theorem texts0_snoc {l : List Int} {i : Nat} {x : Int} (h : l[i]? = some x) : texts0 (l.take (i + 1)) = texts0 (l.take i) ++ (if (x.fdiv 8).fmod 3 = 1 then [] else [pieceOf x]) := by
  unfold texts0
  rw [List.take_add_one, h]
  by_cases c : (x.fdiv 8).fmod 3 = 1 <;> simp [c]
theorem texts1_snoc {l : List Int} {i : Nat} {x : Int} (h : l[i]? = some x) : texts1 (l.take (i + 1)) = texts1 (l.take i) ++ (if (x.fdiv 8).fmod 3 = 0 then [] else [pieceOf x]) := by
  unfold texts1
  rw [List.take_add_one, h]
  by_cases c : (x.fdiv 8).fmod 3 = 0 <;> simp [c]
inductive XJ (iv pv : List Value) (ns : List Int) (DD tt t0 t1 pp : Addr) (news : List (Addr × Obj)) (i : Nat) (m : Str → Option Value) (nx : List (Addr × Obj)) : Prop
  | mk (ws0 ws1 : List Value) (n0 n1 : Nat) (h1 : nx = (DD, listOf (List.toArray iv) 0) :: (tt, listOf (List.toArray [.ref t0, .ref t1]) 0) :: (t1, listOf (List.toArray ws1) n1) :: (t0, listOf (List.toArray ws0) n0) :: (pp, listOf (List.toArray pv) 0) :: news) (h2 : StrsAre ws0 (texts0 ((ns.take 10 ++ consts).take i))) (h3 : StrsAre ws1 (texts1 ((ns.take 10 ++ consts).take i))) (h4 : m (Str.ofString "texts") = some (.ref tt)) (h5 : m (Str.ofString "pieces") = some (.ref pp)) : XJ iv pv ns DD tt t0 t1 pp news i m nx
theorem c_texts {w : World} {p : Program} {loose : List Str} {mean : ExcName → Option Value} {mg mb : Str → Option Value}
  (dp un : Nat) (gd : Option (List Code)) (cn : Str) (cs : Scope) (a : Addr) (ccd : Value) (cl : List (Str × Addr)) (outer : List Env) (A₀ : Around) (base h₀ : Heap) (L : Addr) (m : Str → Option Value) (news : List (Addr × Obj)) (s : Shared)
    (Q E : Value → Shared → Prop)
    (B : Below A₀ base outer h₀) (F : Fr h₀ L s.heap m) (KX : (hd.heap_1 w.params).In h₀) (T : Top p loose mean mg mb h₀) (hk : cs.kind = .function) (hdp : dp + 10 < recursionLimit) (hu : un + 80 < cLine)
    (N : News h₀ L s.heap news) (l : Addr) (vs : List Value) (ns : List Int) (hl : h₀.IsList l vs.toArray) (hvs : IntsAre vs ns) (hn : ns.length ≤ 1000)
    (hret : ∀ (D t0 t1 : Addr) ws0 ws1 n0 n1 h' tk', Fr h₀ L h' m → News h₀ L h' ((D, listOf (List.toArray [.ref t0, .ref t1]) 0) :: (t1, listOf (List.toArray ws1) n1) :: (t0, listOf (List.toArray ws0) n0) :: news) → StrsAre ws0 (texts0 (ns.take 10 ++ consts)) → StrsAre ws1 (texts1 (ns.take 10 ++ consts)) → (∀ p ∈ news, p.1 < t0) → t0 < t1 → t1 < D → Q (.ref D) { s with heap := h', toks := tk' }) :
    wpAny (model Challenge.rw_il0109_01.row.prog w) (ktrTop dp un gd cn cs L a ccd cl outer) (call (.ref 72) [.ref l]) Q E s := by
  refine wpAny_call ?_
  revert KX; k_fill; intro KX
  have hvl := hvs.length
  k_dflt ktr_enter
  (repeat' first | ((with_reducible show wpAny _ _ (subscriptTail _ _ (Value.ref _) (Value.int (Int.fmod _ 8) _)) _ _ _); k_dflt (refine' Mine.piece_at (by first | ((exact News.isList (by k_asm) (by walk_at "mem")); done) | fail) (by assumption) ?_); intro _) | (((with_reducible show wpAny _ _ (binaryOp _ (Value.ref _) (Value.ref _)) _ _ _); (rename Fr _ _ _ _ => hF'); (rename News _ _ _ _ => hN'); (refine Mine.add_lists' hF' hN' (by walk_at "mem") (by walk_at "mem") ?_ (by walk_at "len") (by walk_at "len")); clear hF' hN'; intro _ _ _ _ l1; (try k_lt l1)); (try (revert l1; intro _))) | ((with_reducible show wpAny _ _ (call (Value.builtin _) [Value.ref _, _]) _ _ _); (rename Fr _ _ _ _ => hF'); (rename News _ _ _ _ => hN'); (refine Mine.append_list hF' hN' (by k_upd) ?_ (by walk_at "len")); clear hF' hN'; intro _ _ _) | walk_at "g")
  rename Fr _ _ _ _ => F1
  rename News _ _ _ _ => N1
  refine For_invVF F1 rfl rfl ?_
  (repeat' first | ((with_reducible show wpAny _ _ (subscriptTail _ _ (Value.ref _) (Value.int (Int.fmod _ 8) _)) _ _ _); k_dflt (refine' Mine.piece_at (by first | ((exact News.isList (by k_asm) (by walk_at "mem")); done) | fail) (by assumption) ?_); intro _) | (((with_reducible show wpAny _ _ (binaryOp _ (Value.ref _) (Value.ref _)) _ _ _); (rename Fr _ _ _ _ => hF'); (rename News _ _ _ _ => hN'); (refine Mine.add_lists' hF' hN' (by walk_at "mem") (by walk_at "mem") ?_ (by walk_at "len") (by walk_at "len")); clear hF' hN'; intro _ _ _ _ l1; (try k_lt l1)); (try (revert l1; intro _))) | ((with_reducible show wpAny _ _ (call (Value.builtin _) [Value.ref _, _]) _ _ _); (rename Fr _ _ _ _ => hF'); (rename News _ _ _ _ => hN'); (refine Mine.append_list hF' hN' (by k_upd) ?_ (by walk_at "len")); clear hF' hN'; intro _ _ _) | walk_at "g")
  rename Fr _ _ _ _ => F2
  rename News _ _ _ _ => N2
  rename Fr h₀ L _ m => FG
  k_dflt refine' Mine.slice_is (zs := vs.take 10) F2 N2 ?sl1 ?sl2 ?sl3 ?sl4 ?_ ?sl5 ?sl6 ?sl7
  case sl1 => exact hl.at fun o e => F2.keep _ _ (FG.keep _ _ e)
  case sl2 => kmk_part
  case sl3 => kmk_part
  case sl4 => exact Mine.pick_upto' _ (by decide)
  case sl5 => with_unfolding_all rfl
  case sl6 => kmk_pure
  case sl7 => walk_at "o"
  intro D3 h3 F3 N3 l3
  k_lt l3
  (repeat' first | ((with_reducible show wpAny _ _ (subscriptTail _ _ (Value.ref _) (Value.int (Int.fmod _ 8) _)) _ _ _); k_dflt (refine' Mine.piece_at (by first | ((exact News.isList (by k_asm) (by walk_at "mem")); done) | fail) (by assumption) ?_); intro _) | (((with_reducible show wpAny _ _ (binaryOp _ (Value.ref _) (Value.ref _)) _ _ _); (rename Fr _ _ _ _ => hF'); (rename News _ _ _ _ => hN'); (refine Mine.add_lists' hF' hN' (by walk_at "mem") (by walk_at "mem") ?_ (by walk_at "len") (by walk_at "len")); clear hF' hN'; intro _ _ _ _ l1; (try k_lt l1)); (try (revert l1; intro _))) | ((with_reducible show wpAny _ _ (call (Value.builtin _) [Value.ref _, _]) _ _ _); (rename Fr _ _ _ _ => hF'); (rename News _ _ _ _ => hN'); (refine Mine.append_list hF' hN' (by k_upd) ?_ (by walk_at "len")); clear hF' hN'; intro _ _ _) | walk_at "g")
  rename Fr _ _ _ _ => F4
  rename News _ _ _ _ => N4
  rename_i g2 L2 _ B2 X2 T2 _ pp _ la0 _ _ t0 _ la t1 _ lb tt _ lc _ cc _ ld DD h2 le
  obtain ⟨iv, pv, N5, hI, hP⟩ : ∃ iv pv, News g2 L2 h2 ((DD, listOf (List.toArray iv) 0) :: (tt, listOf (List.toArray [.ref t0, .ref t1]) 0) :: (t1, listOf (List.toArray []) 0) :: (t0, listOf (List.toArray []) 0) :: (pp, listOf (List.toArray pv) 0) :: news) ∧ IntsAre iv (ns.take 10 ++ consts) ∧ StrsAre pv piecesL := by
    refine' ⟨_, _, news_sub N4 ?n5, ?hI, ?hP⟩
    case n5 => walk_at "sub"
    case hI => exact (hvs.take 10).append (.cons _ _ (.cons _ _ (.cons _ _ (.cons _ _ (.cons _ _ (.cons _ _ (.cons _ _ (.cons _ _ (.cons _ _ (.cons _ _ .nil))))))))))
    case hP => exact .cons _ _ (.cons _ _ (.cons _ _ (.cons _ _ (.cons _ _ (.cons _ _ (.cons _ _ (.cons _ _ .nil)))))))
  clear N4
  refine for_list (XJ iv pv ns DD tt t0 t1 pp news) rfl F4 N5 (.head _) ?_ ?_ ?_ ?_
  · rintro i m nx ⟨ws0, ws1, n0, n1, rfl, _⟩
    exact ⟨.head _, rfl⟩
  · exact ⟨[], [], 0, 0, rfl, .nil, .nil, (by with_unfolding_all rfl), (by with_unfolding_all rfl)⟩
  · rintro i v m₁ nx h tk' I o hv hlt ⟨ws0, ws1, n0, n1, rfl, hw0, hw1, hm1, hm2⟩ F2 N2
    clear F4 N5
    k_lt hlt
    rw [mset hm1, mset hm2] at F2
    obtain ⟨x, tx, rfl, hx⟩ := hI.at i v hv
    have hz0 : ws0.length ≤ 100 := by
      have h1 := hw0.length
      have h2 := texts0_len ((ns.take 10 ++ consts).take i)
      have h3 := cut_len ns i
      walk_at "o"
    have hz1 : ws1.length ≤ 100 := by
      have h1 := hw1.length
      have h2 := texts1_len ((ns.take 10 ++ consts).take i)
      have h3 := cut_len ns i
      walk_at "o"
    (repeat' first | ((with_reducible show wpAny _ _ (subscriptTail _ _ (Value.ref _) (Value.int (Int.fmod _ 8) _)) _ _ _); k_dflt (refine' Mine.piece_at (by first | ((exact News.isList (by k_asm) (by walk_at "mem")); done) | fail) (by assumption) ?_); intro _) | (((with_reducible show wpAny _ _ (binaryOp _ (Value.ref _) (Value.ref _)) _ _ _); (rename Fr _ _ _ _ => hF'); (rename News _ _ _ _ => hN'); (refine Mine.add_lists' hF' hN' (by walk_at "mem") (by walk_at "mem") ?_ (by walk_at "len") (by walk_at "len")); clear hF' hN'; intro _ _ _ _ l1; (try k_lt l1)); (try (revert l1; intro _))) | ((with_reducible show wpAny _ _ (call (Value.builtin _) [Value.ref _, _]) _ _ _); (rename Fr _ _ _ _ => hF'); (rename News _ _ _ _ => hN'); (refine Mine.append_list hF' hN' (by k_upd) ?_ (by walk_at "len")); clear hF' hN'; intro _ _ _) | walk_at "g")
    · rename ((x.fdiv 8).fmod 3 ≠ 1) => c1
      rename ((x.fdiv 8).fmod 3 ≠ 0) => c0
      refine' inv_end ?F ?N ?_
      case F => assumption
      case N => assumption
      refine ⟨_, ⟨ws0 ++ [_], ws1 ++ [_], _, _, rfl, ?_, ?_, (by with_unfolding_all rfl), (by with_unfolding_all rfl)⟩, (by walk_at "sub"), (by walk_at "sub"), (by exact rfl)⟩
      · rw [texts0_snoc hx, if_neg c1]; exact hw0.append' (.cons _ _ .nil)
      · rw [texts1_snoc hx, if_neg c0]; exact hw1.append' (.cons _ _ .nil)
    · rename ((x.fdiv 8).fmod 3 ≠ 1) => c1
      rename ((x.fdiv 8).fmod 3 = 0) => c0
      refine' inv_end ?F ?N ?_
      case F => assumption
      case N => assumption
      refine ⟨_, ⟨ws0 ++ [_], ws1, _, _, rfl, ?_, ?_, (by with_unfolding_all rfl), (by with_unfolding_all rfl)⟩, (by walk_at "sub"), (by walk_at "sub"), (by exact rfl)⟩
      · rw [texts0_snoc hx, if_neg c1]; exact hw0.append' (.cons _ _ .nil)
      · rw [texts1_snoc hx, if_pos c0, List.append_nil]; exact hw1
    · rename ((x.fdiv 8).fmod 3 = 1) => c1
      rename ((x.fdiv 8).fmod 3 ≠ 0) => c0
      refine' inv_end ?F ?N ?_
      case F => assumption
      case N => assumption
      refine ⟨_, ⟨ws0, ws1 ++ [_], _, _, rfl, ?_, ?_, (by with_unfolding_all rfl), (by with_unfolding_all rfl)⟩, (by walk_at "sub"), (by walk_at "sub"), (by exact rfl)⟩
      · rw [texts0_snoc hx, if_pos c1, List.append_nil]; exact hw0
      · rw [texts1_snoc hx, if_neg c0]; exact hw1.append' (.cons _ _ .nil)
    · rename ((x.fdiv 8).fmod 3 = 1) => c1
      rename ((x.fdiv 8).fmod 3 = 0) => c0
      exact absurd (c1.symm.trans c0) (by decide)
  · rintro m₁ nx h tk' ⟨ws0, ws1, n0, n1, rfl, hw0, hw1, hm1, hm2⟩ F2 N2
    clear F4 N5
    rw [mset hm1, mset hm2] at F2
    have hall : (ns.take 10 ++ consts).take iv.length = ns.take 10 ++ consts := List.take_of_length_le (by rw [hI.length]; exact Nat.le_refl _)
    rw [hall] at hw0 hw1
    (repeat' first | ((with_reducible show wpAny _ _ (subscriptTail _ _ (Value.ref _) (Value.int (Int.fmod _ 8) _)) _ _ _); k_dflt (refine' Mine.piece_at (by first | ((exact News.isList (by k_asm) (by walk_at "mem")); done) | fail) (by assumption) ?_); intro _) | (((with_reducible show wpAny _ _ (binaryOp _ (Value.ref _) (Value.ref _)) _ _ _); (rename Fr _ _ _ _ => hF'); (rename News _ _ _ _ => hN'); (refine Mine.add_lists' hF' hN' (by walk_at "mem") (by walk_at "mem") ?_ (by walk_at "len") (by walk_at "len")); clear hF' hN'; intro _ _ _ _ l1; (try k_lt l1)); (try (revert l1; intro _))) | ((with_reducible show wpAny _ _ (call (Value.builtin _) [Value.ref _, _]) _ _ _); (rename Fr _ _ _ _ => hF'); (rename News _ _ _ _ => hN'); (refine Mine.append_list hF' hN' (by k_upd) ?_ (by walk_at "len")); clear hF' hN'; intro _ _ _) | walk_at "g")
    rename Fr h₀ _ _ _ => kF
    rename News h₀ _ _ _ => kN
    refine hret _ _ _ _ _ _ _ _ _ kF (news_sub kN (by walk_at "sub")) hw0 hw1 (fun p hp => allLt_mem la.2 p hp) ?_ ?_
    · exact nat_lt (by walk_at "o")
    · exact nat_lt (by walk_at "o")
end
section
noncomputable def rdq : Str := Str.ofString "_law_stream.<locals>.read"
noncomputable def rdOf (P : Params) : Arguments × List Stmt × Scope := match (hd.heap_1 P).lookup 84 with
  | some ⟨_, _, .func fd, _⟩ => (match fd.body with
    | .stmts (_ :: .FunctionDef _ ps s _ _ _ sc _ _ _ :: _) => (ps, s, sc)
    | _ => default)
  | _ => default
/-- a code object of that name -/
inductive CodeAt (nx : List (Addr × Obj)) (c : Addr) (qn : Str) : Prop
  | mk (oc : Obj) (vs : Array Value) (t : Tok) (h1 : (c, oc) ∈ nx) (h2 : oc.data = .fields vs) (h3 : vs[1]? = some (.str qn t)) : CodeAt nx c qn
/-- a stream over the list lo, its place in the list pl -/
inductive StreamAt (P : Params) (nx : List (Addr × Obj)) (sf lo pl : Addr) : Prop
  | mk (sd rf c1 pc oc : Nat) (q : Int) (t : Tok) (n : Nat) (fd : FuncData) (doc pm ct : Value) (o1 o2 : Obj)
    (h1 : (sf, (⟨.type "function", some (sd + 121), .func fd, ⟨[]⟩⟩ : Obj)) ∈ nx) (h2 : (sd + 121, (⟨.type "dict", none, .dict ⟨[⟨q, .str (Str.ofString "read") t, .ref rf⟩]⟩ n, ⟨[]⟩⟩ : Obj)) ∈ nx) (h3 : (rf, fnMade (Str.ofString "read") rdq (rdOf P).1 (rdOf P).2.1 (rdOf P).2.2 [(Str.ofString "place", pc), (Str.ofString "octets", oc)] doc pm c1 ct) ∈ nx) (h4 : CodeAt nx c1 rdq) (h5 : (pc, o1) ∈ nx) (h6 : o1.data = .cell (some (.ref pl))) (h7 : (oc, o2) ∈ nx) (h8 : o2.data = .cell (some (.ref lo))) : StreamAt P nx sf lo pl
/-- the table of code of _law_stream, once it has been called -/
inductive TabSt (nx : List (Addr × Obj)) (ps : Array Value) : Prop
  | mk (c1 c2 : Addr) (h1 : ps = #[rawInt 115, rawInt 4, .ref c1, rawInt 118, rawInt 13, .ref c2]) (h2 : CodeAt nx c1 rdq) : TabSt nx ps
theorem CodeAt.mono {nx ny : List (Addr × Obj)} {c : Addr} {qn : Str} (x : CodeAt nx c qn) (h : ∀ p ∈ nx, p ∈ ny) : CodeAt ny c qn := let ⟨oc, vs, t, a, b, c⟩ := x; ⟨oc, vs, t, h _ a, b, c⟩
theorem StreamAt.mono {P : Params} {nx ny : List (Addr × Obj)} {sf lo pl : Addr} (x : StreamAt P nx sf lo pl) (h : ∀ p ∈ nx, p ∈ ny) : StreamAt P ny sf lo pl :=
  let ⟨sd, rf, c1, pc, oc, q, t, n, fd, doc, pm, ct, o1, o2, a, b, c, d, e, f, g, i⟩ := x
  ⟨sd, rf, c1, pc, oc, q, t, n, fd, doc, pm, ct, o1, o2, h _ a, h _ b, h _ c, d.mono h, h _ e, f, h _ g, i⟩
theorem TabSt.mono {nx ny : List (Addr × Obj)} {ps : Array Value} (x : TabSt nx ps) (h : ∀ p ∈ nx, p ∈ ny) : TabSt ny ps := let ⟨c1, c2, a, b⟩ := x; ⟨c1, c2, a, b.mono h⟩
theorem updF_at {a : Addr} {o : Obj} {l : List (Addr × Obj)} {g : Obj → List (Addr × Obj)} (u : UpdF a o l g) : g o = l := by
  obtain ⟨pre, post, e1, e2, _, _⟩ := u.split
  rw [e2, e1]
theorem qn_is {sc : Scope} {L : Addr} {cd : Value} (h : ((envOfC (Str.ofString "_law_stream") sc L 84 cd).kindOf (Str.ofString "read") == some .globalExplicit) = false) : qualnameIn (envOfC (Str.ofString "_law_stream") sc L 84 cd) (Str.ofString "read") (Str.ofString "read") = rdq := by
  unfold qualnameIn
  rw [h]
  show (Str.ofString "_law_stream" ++ ".<locals>.") ++ Str.ofString "read" = rdq
  decide +kernel
theorem stream_fin {h₀ h : Heap} {L : Addr} {x1 x2 x3 x4 x5 x6 x7 x8 : Addr × Obj} {r : List (Addr × Obj)} (N : News h₀ L h (x1 :: x2 :: x3 :: x4 :: x5 :: x6 :: x7 :: x8 :: r)) : News h₀ L h (x6 :: ([x1, x2, x3, x4, x5, x7, x8] ++ r)) := news_sub N (by
  intro p hp
  simp only [List.mem_cons, List.mem_append, List.not_mem_nil, or_false] at hp ⊢
  rcases hp with h | (h | h | h | h | h | h | h) | h <;> simp [h])
theorem stream_fin2 {h₀ h : Heap} {L : Addr} {x1 x2 x4 x6 x7 x8 : Addr × Obj} {r : List (Addr × Obj)} (N : News h₀ L h (x1 :: x2 :: x4 :: x6 :: x7 :: x8 :: r)) : News h₀ L h (x6 :: ([x1, x2, x4, x7, x8] ++ r)) := news_sub N (by
  intro p hp
  simp only [List.mem_cons, List.mem_append, List.not_mem_nil, or_false] at hp ⊢
  rcases hp with h | (h | h | h | h | h) | h <;> simp [h])
local macro_rules | `(tactic| k_mem) => `(tactic| walk_at "mem")
theorem c_stream1 {w : World} {p : Program} {loose : List Str} {mean : ExcName → Option Value} {mg mb : Str → Option Value}
  (dp un : Nat) (gd : Option (List Code)) (cn : Str) (cs : Scope) (a : Addr) (ccd : Value) (cl : List (Str × Addr)) (outer : List Env) (A₀ : Around) (base h₀ : Heap) (L : Addr) (m : Str → Option Value) (news : List (Addr × Obj)) (s : Shared)
    (Q E : Value → Shared → Prop)
    (B : Below A₀ base outer h₀) (F : Fr h₀ L s.heap m) (KX : (hd.heap_1 w.params).In h₀) (Cd : CodeHd base 83 79) (KN : KNo w.params base) (T : Top p loose mean mg mb h₀) (hk : cs.kind = .function) (hd : dp + 10 < recursionLimit) (hu : un + 80 < cLine) (hd2 : dp ≤ 400) (hu2 : un ≤ 500)
    (N : News h₀ L s.heap news) (g : Obj → List (Addr × Obj))  (U : UpdF 79 (tabObj #[]) news g)  (lo : Addr)
    (hret : ∀ (sf pl : Addr) (own : List (Addr × Obj)) (tk0 : Tok) (n0 : Nat) (ps' : Array Value) h' tk', Fr h₀ L h' m → News h₀ L h' ((pl, listOf [.int 0 tk0].toArray n0) :: (own ++ g (tabObj ps'))) → StreamAt w.params (own ++ g (tabObj ps')) sf lo pl → TabSt own ps' →
      (∀ p ∈ news, p.1 < pl) → (∀ q ∈ own, q.1 ≠ pl ∧ ∀ p ∈ news, p.1 < q.1) → Q (.ref sf) { s with heap := h', toks := tk' }) :
    wpAny (model Challenge.rw_il0109_01.row.prog w) (ktrTop dp un gd cn cs L a ccd cl outer) (call (.ref 84) [.ref lo]) Q E s := by
  refine wpAny_call ?_
  revert KX; k_fill; intro KX
  k_dflt (refine' code_defC (by k_asm) (by k_asm) (by k_asm) (by k_asm) (by k_asm) (by exact rfl) (by exact rfl) (by assumption) (by first | ((k_is); done) | fail) (by first | ((k_is); done) | fail) (by first | ((ktr_room); done) | fail) (by exact BindsTo.of_eq rfl) (by exact rfl) (by first | ((decide +kernel); done) | fail) ?_ (by exact rfl) (by exact rfl) (by exact rfl); k_whole; intro g' L' h' tk' cells' FG' F' N' Y' B' X' T' l99; k_cells Y'; (try simp only [List.cons_append, List.nil_append] at N'); (try dsimp only); (try k_fold))
  rename (∀ p ∈ news, p.1 < _) => l1
  have h79 := updF_in U
  have l79 := nat_lt (l1 _ h79)
  dsimp only at l79
  (repeat' first | ((((with_reducible show wpAny _ _ (setAttr (Value.ref _) _ _) _ _ _); k_dflt (refine' Mine.fn_set' (by k_asm) (by k_asm) (by first | ((exact Mine.KNo.keeps (by assumption) (Below.stays (by assumption))); done) | fail) (by rfl) (by first | ((((try simp only [depth_under_make, depth_under_kw, depth_in1, depth_deeper, depth_caller]); walk_at "o")); done) | fail) (by first | ((((try simp only [units_in1, units_deeper, Around.mark_units, units_caller]); walk_at "o")); done) | fail) (by first | ((k_updF); done) | fail) ?_); intro _ _ _ _ _ _ _ N' l1; (try dsimp only at N'); (try k_lt l1)); (try (revert N'; intro _))); (try (revert l1; intro _))) | walk_at "g")
  rename News h₀ _ _ _ => kN
  rename Fr h₀ _ _ _ => kF
  have kN2 := stream_fin kN
  rw [qn_is] at kN2
  rotate_left
  · rfl
  rename (_[1]? = some (Value.str (qualnameIn _ _ _) _)) => dq
  rw [qn_is] at dq
  rotate_left
  · rfl
  have lt79 := updF_lt U l1
  refine' hret _ _ _ _ _ _ _ _ kF kN2 ?st ?tab ?lt ?ord
  case st =>
    refine' ⟨_, _, _, _, _, _, _, _, _, _, _, _, _, _, ?a, ?b, ?c, ⟨_, _, _, ?d, ?e, ?f⟩, ?g, ?i, ?j, ?k⟩
    case a => exact List.mem_append_left _ (by with_unfolding_all walk_at "mem")
    case b => exact List.mem_append_left _ (by with_unfolding_all walk_at "mem")
    case c => exact List.mem_append_left _ (by with_unfolding_all walk_at "mem")
    case d => exact List.mem_append_left _ (by walk_at "mem")
    case e => assumption
    case f => assumption
    case g => exact List.mem_append_left _ (by walk_at "mem")
    case i => assumption
    case j => exact List.mem_append_left _ (by walk_at "mem")
    case k => assumption
  case tab =>
    refine' ⟨_, _, by rfl, ⟨_, _, _, ?d, ?e, ?f⟩⟩
    case d => walk_at "mem"
    case e => assumption
    case f => assumption
  case lt =>
    intro p hp
    have h0 := nat_lt (l1 p hp)
    refine nat_lt ?_
    walk_at "o"
  case ord =>
    intro q hq
    simp only [List.mem_cons, List.not_mem_nil, or_false] at hq
    refine ⟨neN ?_, fun p hp => nat_lt ?_⟩
    · rcases hq with rfl | rfl | rfl | rfl | rfl | rfl | rfl <;> (dsimp only; walk_at "o")
    · have h0 := nat_lt (l1 p hp)
      rcases hq with rfl | rfl | rfl | rfl | rfl | rfl | rfl <;> (dsimp only; walk_at "o")
theorem c_stream2 {w : World} {p : Program} {loose : List Str} {mean : ExcName → Option Value} {mg mb : Str → Option Value}
  (dp un : Nat) (gd : Option (List Code)) (cn : Str) (cs : Scope) (a : Addr) (ccd : Value) (cl : List (Str × Addr)) (outer : List Env) (A₀ : Around) (base h₀ : Heap) (L : Addr) (m : Str → Option Value) (news : List (Addr × Obj)) (s : Shared)
    (Q E : Value → Shared → Prop)
    (B : Below A₀ base outer h₀) (F : Fr h₀ L s.heap m) (KX : (hd.heap_1 w.params).In h₀) (Cd : CodeHd base 83 79) (KN : KNo w.params base) (T : Top p loose mean mg mb h₀) (hk : cs.kind = .function) (hd : dp + 10 < recursionLimit) (hu : un + 80 < cLine) (hd2 : dp ≤ 400) (hu2 : un ≤ 500)
    (N : News h₀ L s.heap news) (g : Obj → List (Addr × Obj)) (ps : Array Value) (U : UpdF 79 (tabObj ps) news g) (ht : TabSt news ps) (lo : Addr)
    (hret : ∀ (sf pl : Addr) (own : List (Addr × Obj)) (tk0 : Tok) (n0 : Nat) (ps' : Array Value) h' tk', Fr h₀ L h' m → News h₀ L h' ((pl, listOf [.int 0 tk0].toArray n0) :: (own ++ g (tabObj ps'))) → StreamAt w.params (own ++ g (tabObj ps')) sf lo pl → TabSt (own ++ g (tabObj ps')) ps' →
      (∀ p ∈ news, p.1 < pl) → (∀ q ∈ own, q.1 ≠ pl ∧ ∀ p ∈ news, p.1 < q.1) → Q (.ref sf) { s with heap := h', toks := tk' }) :
    wpAny (model Challenge.rw_il0109_01.row.prog w) (ktrTop dp un gd cn cs L a ccd cl outer) (call (.ref 84) [.ref lo]) Q E s := by
  obtain ⟨c1, c2, rfl, oc1, vs1, t1, hc1, hc2, hc3⟩ := ht
  refine wpAny_call ?_
  revert KX; k_fill; intro KX
  k_dflt (refine' code_defC (by k_asm) (by k_asm) (by k_asm) (by k_asm) (by k_asm) (by exact rfl) (by exact rfl) (by assumption) (by first | ((k_is); done) | fail) (by first | ((k_is); done) | fail) (by first | ((ktr_room); done) | fail) (by exact BindsTo.of_eq rfl) (by exact rfl) (by first | ((decide +kernel); done) | fail) ?_ (by exact rfl) (by exact rfl) (by exact rfl); k_whole; intro g' L' h' tk' cells' FG' F' N' Y' B' X' T' l99; k_cells Y'; (try simp only [List.cons_append, List.nil_append] at N'); (try dsimp only); (try k_fold))
  rename (∀ p ∈ news, p.1 < _) => l1
  have h79 := updF_in U
  have l79 := nat_lt (l1 _ h79)
  dsimp only at l79
  (repeat' first | ((((with_reducible show wpAny _ _ (setAttr (Value.ref _) _ _) _ _ _); k_dflt (refine' Mine.fn_set' (by k_asm) (by k_asm) (by first | ((exact Mine.KNo.keeps (by assumption) (Below.stays (by assumption))); done) | fail) (by rfl) (by first | ((((try simp only [depth_under_make, depth_under_kw, depth_in1, depth_deeper, depth_caller]); walk_at "o")); done) | fail) (by first | ((((try simp only [units_in1, units_deeper, Around.mark_units, units_caller]); walk_at "o")); done) | fail) (by first | ((k_updF); done) | fail) ?_); intro _ _ _ _ _ _ _ N' l1; (try dsimp only at N'); (try k_lt l1)); (try (revert N'; intro _))); (try (revert l1; intro _))) | walk_at "g")
  rename News h₀ _ _ _ => kN
  rename Fr h₀ _ _ _ => kF
  have kN2 := stream_fin2 kN
  rw [qn_is] at kN2
  rotate_left
  · rfl
  have lt79 := updF_lt U l1
  have hg := updF_at U
  have hg1 := hc1
  rw [← hg] at hg1 kN2
  refine' hret _ _ _ _ _ _ _ _ kF kN2 ?st ?tab ?lt ?ord
  case st =>
    refine' ⟨_, _, _, _, _, _, _, _, _, _, _, _, _, _, ?a, ?b, ?c, ⟨oc1, vs1, t1, ?d, ?e, ?f⟩, ?g, ?i, ?j, ?k⟩
    case a => exact List.mem_append_left _ (by with_unfolding_all walk_at "mem")
    case b => exact List.mem_append_left _ (by with_unfolding_all walk_at "mem")
    case c => exact List.mem_append_left _ (by with_unfolding_all walk_at "mem")
    case d => exact List.mem_append_right _ hg1
    case e => exact hc2
    case f => exact hc3
    case g => exact List.mem_append_left _ (by walk_at "mem")
    case i => assumption
    case j => exact List.mem_append_left _ (by walk_at "mem")
    case k => assumption
  case tab => exact ⟨_, _, rfl, ⟨_, _, _, List.mem_append_right _ hg1, hc2, hc3⟩⟩
  case lt =>
    intro p hp
    have h0 := nat_lt (l1 p hp)
    refine nat_lt ?_
    walk_at "o"
  case ord =>
    intro q hq
    simp only [List.mem_cons, List.not_mem_nil, or_false] at hq
    refine ⟨neN ?_, fun p hp => nat_lt ?_⟩
    · rcases hq with rfl | rfl | rfl | rfl | rfl <;> (dsimp only; walk_at "o")
    · have h0 := nat_lt (l1 p hp)
      rcases hq with rfl | rfl | rfl | rfl | rfl <;> (dsimp only; walk_at "o")
end
section
local macro_rules | `(tactic| k_mem) => `(tactic| walk_at "mem")
local macro_rules | `(tactic| walk_at "sign") => `(tactic| first | decide | walk_at "o" | (simp; walk_at "o"))
theorem bInts_of {ns : List Int} (h : ∀ x ∈ ns, 0 ≤ x ∧ x < 256) : KBw.bInts (ns.map fun n => n.toNat.toUInt8).toArray = ns := by
  unfold KBw.bInts
  rw [List.map_map]
  refine (List.map_congr_left ?_).trans (List.map_id ns)
  intro x hx
  obtain ⟨h0, h1⟩ := h x hx
  show ((x.toNat.toUInt8).toNat : Int) = x
  rw [UInt8.toNat_ofNat']
  obtain ⟨n, rfl⟩ := Int.eq_ofNat_of_zero_le h0
  exact congrArg Int.ofNat (Nat.mod_eq_of_lt (Int.ofNat_lt.mp h1))
theorem rd_cut {k z : Int} (hk : 0 ≤ k) (hz : 0 ≤ z) : (k + z).toNat - k.toNat = z.toNat := by
  obtain ⟨n, rfl⟩ := Int.eq_ofNat_of_zero_le hk
  obtain ⟨l, rfl⟩ := Int.eq_ofNat_of_zero_le hz
  exact Nat.add_sub_cancel_left (n := n) (m := l)
theorem c_rd {w : World} {p : Program} {loose : List Str} {mean : ExcName → Option Value} {mg mb : Str → Option Value}
  (dp un : Nat) (gd : Option (List Code)) (cn : Str) (cs : Scope) (a : Addr) (ccd : Value) (cl : List (Str × Addr)) (outer : List Env) (A₀ : Around) (base h₀ : Heap) (L : Addr) (m : Str → Option Value) (st : List (Addr × Obj)) (s : Shared)
    (Q E : Value → Shared → Prop)
    (B : Below A₀ base outer h₀) (F : Fr h₀ L s.heap m) (KX : (hd.heap_1 w.params).In h₀) (Cd : CodeHd base 83 79) (T : Top p loose mean mg mb h₀) (hk : cs.kind = .function) (hd : dp + 10 < recursionLimit) (hu : un + 80 < cLine)
    (pl rf c1 pc oc lo : Addr) (k : Int) (tk : Tok) (n nn : Nat) (doc pm ct : Value) (o1 o2 : Obj) (vs : List Value) (ns : List Int) (sz : Int) (tsz : Tok)
    (N : News h₀ L s.heap ((pl, listOf [.int k tk].toArray n) :: st)) (hpl : ∀ q ∈ st, q.1 ≠ pl)
    (hrf : (rf, fnMade (Str.ofString "read") rdq (rdOf w.params).1 (rdOf w.params).2.1 (rdOf w.params).2.2 [(Str.ofString "place", pc), (Str.ofString "octets", oc)] doc pm c1 ct) ∈ st) (hc : CodeAt st c1 rdq)
    (hpc : (pc, o1) ∈ st) (ho1 : o1.data = .cell (some (.ref pl))) (hoc : (oc, o2) ∈ st) (ho2 : o2.data = .cell (some (.ref lo))) (hlo : (lo, listOf vs.toArray nn) ∈ st) (hvs : IntsAre vs ns) (hn : ns.length ≤ 200) (hb : ∀ x ∈ ns, 0 ≤ x ∧ x < 256) (hk0 : 0 ≤ k) (hk1 : k ≤ 10000) (hs0 : 0 ≤ sz) (hs1 : sz ≤ 300) (res : List Int) (hres : (ns.drop k.toNat).take sz.toNat = res)
    (hret : ∀ n' tk1 tb h' tk' bs, KBw.bInts bs = res → Fr h₀ L h' m → News h₀ L h' ((pl, listOf [.int (k + sz) tk1].toArray n') :: st) → Q (.bytes bs tb) { s with heap := h', toks := tk' }) :
    wpAny (model Challenge.rw_il0109_01.row.prog w) (ktrTop dp un gd cn cs L a ccd cl outer) (call (.ref rf) [.int sz tsz]) Q E s := by
  refine wpAny_call ?_
  revert KX; k_fill; intro KX
  obtain ⟨occ, vsc, tc, hc1, hc2, hc3⟩ := hc
  repeat (conv at hrf in (rdOf _) => whnf)
  try dsimp only at hrf
  refine' code_nest ?k1 ?k2 ?k3 ?k4 ?k5 ?kA ?kF ?kK ?k6 ?k7 ?k8 ?k9 ?kB ?_ ?c2 ?c3 ?c4 ?c5
  case kA => exact rfl
  case kF => exact rfl
  case kK => exact hk
  case k1 => exact B
  case k2 => exact F
  case k3 => exact KX
  case k4 => exact N
  case k5 => exact T
  case k6 => exact List.Mem.tail _ hrf
  case k7 => exact codeRec_news N (.tail _ hc1) hc2 hc3
  case k8 => ktr_room
  case k9 => exact BindsTo.of_eq rfl
  case c5 => decide
  case kB => exact locs rfl
  case c2 => exact rfl
  case c3 => exact rfl
  case c4 => exact rfl
  intro g' L' h' FG' F' N' B' X' T'
  have hvl := hvs.length
  (repeat' first | (((with_reducible show wpAny _ _ (subscriptTail _ (PySem.Expr.Slice _ _ none _) (Value.ref _) (Value.ref _)) _ _ _); (rename Fr _ _ _ _ => hF'); (rename News _ _ _ _ => hN'); k_dflt (refine' Mine.slice_at hF' hN' (by first | ((walk_at "mem"); done) | fail) (by first | ((kmk_part); done) | fail) (by first | ((kmk_part); done) | fail) (by first | ((walk_at "pick"); done) | fail) ?_ (by with_unfolding_all rfl) (by first | ((kmk_pure); done) | fail) (by first | ((walk_at "len"); done) | fail)); clear hF' hN'; intro _ _ _ _ l1; (try k_lt l1)); (try (revert l1; intro _))) | walk_at "g")
  refine' bytes_K ?F ?N ?l ?i ?r ?z ?h ?_
  case F => k_asm
  case N => k_asm
  case l => exact News.isList (by k_asm) (.head _)
  case i => exact (IntsAre.drop hvs _).take _
  case r => exact fun x hx => hb x (List.mem_of_mem_drop (List.mem_of_mem_take hx))
  case z => (rw [sizeLine_eq]; simp only [List.length_take, List.length_drop]; exact Nat.le_trans (Nat.le_trans (Nat.min_le_right _ _) (Nat.sub_le _ _)) (by rw [hvl]; exact Nat.le_trans hn (by decide)))
  case h => rfl
  intro h' t' k' F' N' hB'
  (repeat' first | (((with_reducible show wpAny _ _ (subscriptTail _ (PySem.Expr.Slice _ _ none _) (Value.ref _) (Value.ref _)) _ _ _); (rename Fr _ _ _ _ => hF'); (rename News _ _ _ _ => hN'); k_dflt (refine' Mine.slice_at hF' hN' (by first | ((walk_at "mem"); done) | fail) (by first | ((kmk_part); done) | fail) (by first | ((kmk_part); done) | fail) (by first | ((walk_at "pick"); done) | fail) ?_ (by with_unfolding_all rfl) (by first | ((kmk_pure); done) | fail) (by first | ((walk_at "len"); done) | fail)); clear hF' hN'; intro _ _ _ _ l1; (try k_lt l1)); (try (revert l1; intro _))) | walk_at "g")
  rename News h₀ _ _ _ => kN
  rename Fr h₀ _ _ _ => kF
  refine' hret _ _ _ _ _ _ ?e kF (news_sub kN (by walk_at "sub"))
  case e =>
    refine (bInts_of fun x hx => hb x (List.mem_of_mem_drop (List.mem_of_mem_take hx))).trans (Eq.trans ?_ hres)
    congr 1
    · simp
      exact rd_cut hk0 hs0
    · congr 1
      simp
end
section
open PySem.Builtin PySem.Builtin._codecs
noncomputable def upTo (b : Array UInt8) (p : Nat) : Array Nat := ((b.toList.take p).map (·.toNat)).toArray
theorem upTo_size (b : Array UInt8) (p : Nat) (h : p ≤ b.size) : (upTo b p).size = p := by simp [upTo]; walk_at "o"
theorem upTo_succ (b : Array UInt8) (p : Nat) (h : p < b.size) : upTo b p ++ [(b.getD p 0).toNat].toArray = upTo b (p + 1) := by
  unfold upTo
  rw [List.take_add_one]
  have e : b.toList[p]? = some (b.getD p 0) := by
    rw [Array.getElem?_toList]
    simp [Array.getD, h]
  rw [e]
  simp
theorem upTo_all (b : Array UInt8) : upTo b b.size = b.map (·.toNat) := by
  unfold upTo
  rw [List.take_of_length_le (by simp)]
  apply Array.ext'
  simp
theorem lat_loop {St : Type} (b : Array UInt8) (f : Nat → Nat × Array Nat × St → Sem (ForInStep (Nat × Array Nat × St))) (hf : ∀ x p st, p < b.size → f x (p, upTo b p, st) = pure (.yield (p + 1, upTo b (p + 1), st))) :
    ∀ (l : List Nat) (p : Nat) (st : St), p + l.length = b.size → forIn l (p, upTo b p, st) f = (pure (b.size, upTo b b.size, st) : Sem (Nat × Array Nat × St)) := by
  intro l
  induction l with
  | nil => intro p st h; simp only [List.length_nil, Nat.add_zero] at h; subst h; rw [List.forIn_nil]
  | cons x l ih =>
    intro p st h
    simp only [List.length_cons] at h
    rw [List.forIn_cons, hf x p st (by walk_at "o")]
    show forIn l (p + 1, upTo b (p + 1), st) f = _
    exact ih (p + 1) st (by walk_at "o")
theorem lat_run (id : String) (b : Array UInt8) (hz : b.size ≤ sizeLine) : runDecoder id latin1Decoder none true b 0 [] = pure (b.map (·.toNat), b.size) := by
  unfold runDecoder
  simp only [Std.Legacy.Range.forIn_eq_forIn_range']
  have key := fun f hf st => lat_loop (St := Faults) b f hf (List.range' 0 [:b.size].size) 0 st (by simp [Std.Legacy.Range.size])
  have e0 : upTo b 0 = #[] := by simp [upTo]
  rw [e0] at key
  rw [key]
  · rw [upTo_all]; rfl
  · intro x p st hp
    dsimp only
    rw [if_neg (by rw [upTo_size b p (by walk_at "o")]; walk_at "o"), if_neg (by walk_at "o")]
    show pure (ForInStep.yield (p + 1, upTo b p ++ [(b.getD p 0).toNat].toArray, st)) = _
    rw [upTo_succ b p hp]
theorem lat_road (id : String) (b : Array UInt8) : decodeRoad id b (Str.ofString "latin-1") none [] = (runDecoder id latin1Decoder none true b 0 [] >>= fun r => mkStr ⟨r.1⟩) := by kernel_rfl
theorem lat_meets {b : Array UInt8} {t t1 t2 : Tok} {d : Str} :
    Meets («_codecs.decode.text» ⟨[.bytes b t, .str (Str.ofString "latin-1") t1, .none, .str d t2], []⟩) (fun _ R s => b.size ≤ sizeLine ∧ R (.ok (.ret (.str ⟨b.map (·.toNat)⟩ s.toks))) { s with toks := s.toks + 1 }) := by
  refine .of_wp fun prog w A R s hS => ?_
  obtain ⟨hsz, h⟩ := hS
  show wpAny _ _ (Bytes.bytesLike _ (.bytes b t) >>= fun r => _) _ _ s
  refine wpAny_bind (wpAny_of_eq KBd.like_eq ?_)
  refine wpAny_bind (wpAny_of_eq KBd.held_eq ?_)
  show wpAny _ _ (decodeRoad _ b (Str.ofString "latin-1") none [] >>= fun v => _) _ _ s
  rw [lat_road, lat_run _ _ hsz]
  refine wpAny_bind (wpAny_bind (wpAny_pure ?_))
  refine wpAny_mkStr (wpAny_pure ⟨_, rfl, h⟩) ?_
  show (b.map (·.toNat)).size ≤ _
  rw [Array.size_map]
  exact hsz
theorem lat_cons {c : UInt8} {cs : List UInt8} {t u : Tok} : «bytes.decode» ⟨[.bytes (c :: cs).toArray t, .str (Str.ofString "latin-1") u], []⟩ = (mkStr (Str.ofString "utf-8") >>= fun _ => mkStr (Str.ofString "latin-1") >>= fun e => mkStr (Str.ofString "bytes.decode") >>= fun d =>
    call (.builtin "_codecs.decode.text") [.bytes (c :: cs).toArray t, e, .none, d] >>= fun v => ret v) := by kernel_rfl
theorem lat_nil {t u : Tok} : «bytes.decode» ⟨[.bytes ([] : List UInt8).toArray t, .str (Str.ofString "latin-1") u], []⟩ = (rule "bytes.decode.empty" >>= fun _ => retStr Str.empty) := by kernel_rfl
theorem lat_args (a b : Value) : argsOk "bytes.decode" ⟨[a, b], []⟩ := by unfold argsOk; kernel_rfl
theorem lat_entry {b : Array UInt8} {t u : Tok} : Meets («bytes.decode» ⟨[.bytes b t, .str (Str.ofString "latin-1") u], []⟩) (fun _ R s => b.size ≤ sizeLine ∧ ∀ t' k, R (.ok (.ret (.str ⟨b.map (·.toNat)⟩ t'))) { s with toks := k }) := by
  refine .of_wp fun prog w A R s hS => ?_
  obtain ⟨hsz, h⟩ := hS
  obtain ⟨l⟩ := b
  cases l with
  | nil =>
    have e := lat_nil (t := t) (u := u)
    rw [show (⟨[]⟩ : Array UInt8) = ([] : List UInt8).toArray from rfl, e]
    have e0 : (⟨(⟨[]⟩ : Array UInt8).map (·.toNat)⟩ : Str) = Str.empty := by decide +kernel
    rw [e0] at h
    refine wpAny_bind (wpAny_rule ?_)
    exact wpAny_bind (wpAny_mkStr (wpAny_pure ⟨_, rfl, h _ _⟩) (by decide))
  | cons c cs =>
    rw [show (⟨c :: cs⟩ : Array UInt8) = (c :: cs).toArray from rfl, lat_cons]
    refine wpAny_bind (wpAny_mkStr ?_ (by decide))
    refine wpAny_bind (wpAny_mkStr ?_ (by decide))
    refine wpAny_bind (wpAny_mkStr ?_ (by decide))
    exact wpAny_bind (call_function_meets KBd.kind_text KBd.plain_text KBd.entry_text (KBd.args_text _ _ _ _) lat_meets ⟨hsz, wpAny_pure ⟨_, rfl, h _ _⟩⟩)
theorem lat_decode {prog : Program} {w : World} {A : Around} {E : Value → Shared → Prop} {s : Shared} {b : Array UInt8} {t u : Tok} {Q : Value → Shared → Prop} (hsz : b.size ≤ 16777216) (h : ∀ t' k, Q (.str ⟨b.map (·.toNat)⟩ t') { s with toks := k }) :
    wpAny (model prog w) A (call (.builtin "bytes.decode") [.bytes b t, .str (Str.ofString "latin-1") u]) Q E s :=
  call_meets FB.slot_bytes_decode (typeIs_bytes _ _ _) FB.entry_bytes_decode (lat_args _ _) lat_entry ⟨by rw [sizeLine_eq]; exact hsz, h⟩
end
section
/-- the reading as a machine: the texts, the refusal, the place -/
structure RS where
  ts : List Str
  rf : Str
  k : Nat
noncomputable def stepRS (ns : List Int) (s : RS) : RS := if s.rf = Str.ofString "" then (match ns.drop s.k with
  | [] => ⟨s.ts, notEnough, s.k + 1⟩
  | c :: r => if r.length < c.toNat then ⟨s.ts, expectedMsg c r.length, s.k + 1 + c.toNat⟩ else ⟨s.ts ++ [textOf (r.take c.toNat)], Str.ofString "", s.k + 1 + c.toNat⟩) else s
local macro_rules | `(tactic| k_mem) => `(tactic| walk_at "mem")
theorem item_one {prog : Program} {w : World} {A : Around} {E : Value → Shared → Prop} {s : Shared} {b : Array UInt8} {t : Tok} {c : Int} {value slice : Expr} {ui : Tok} {Q : Value → Shared → Prop} (hk : KBw.bInts b = [c]) (h : ∀ t' k, Q (.int c t') { s with toks := k })
    (hs : subscripted slice false (.bytes b t) (.int 0 ui) = operate [.bytes b t, .int 0 ui] (getItem (.bytes b t) (.int 0 ui)) := by with_unfolding_all rfl)
    (ht : ∀ r, letTemporaryGo value (.bytes b t) r = pure () := by intro _; with_unfolding_all rfl) : wpAny (model prog w) A (subscriptTail value slice (.bytes b t) (.int 0 ui)) Q E s :=
  KBw.item_K hk (by simp) (by decide) (by simp) (fun t' k _ _ => h t' k) hs ht
theorem text_bytes {b : Array UInt8} {ns : List Int} (h : KBw.bInts b = ns) : (⟨b.map (·.toNat)⟩ : Str) = textOf ns := by
  unfold textOf
  rw [← h]
  congr 1
  apply Array.ext'
  simp [KBw.bInts, Function.comp_def]
theorem c_step0 {w : World} {p : Program} {loose : List Str} {mean : ExcName → Option Value} {mg mb : Str → Option Value}
  (dp un : Nat) (gd : Option (List Code)) (cn : Str) (cs : Scope) (a : Addr) (ccd : Value) (outer : List Env) (A₀ : Around) (base h₀ : Heap) (L : Addr) (m : Str → Option Value) (st : List (Addr × Obj)) (s : Shared)
    (Q E : Value → Shared → Prop)
    (B : Below A₀ base outer h₀) (F : Fr h₀ L s.heap m) (KX : (hd.heap_1 w.params).In h₀) (Cd : CodeHd base 83 79) (KN : KNo w.params base) (T : Top p loose mean mg mb h₀) (XB : (hd.heap_1 w.params).In base) (TB : Top p loose mean mg mb base) (DD : KtsDicts (outer.filterMap (·.frame)) h₀) (hk : cs.kind = .function) (hdp : dp + 30 < recursionLimit) (hu : un + 180 < cLine) (hd2 : dp ≤ 400) (hu2 : un ≤ 500)
    (pl sf lo D lt : Addr) (tk ti tr : Tok) (n nn nw : Nat) (vs ws : List Value) (ns : List Int) (i : Int) (r : RS) (h0 : r.rf ≠ Str.ofString "") (S : StreamAt w.params st sf lo pl)
    (N : News h₀ L s.heap ((pl, listOf [.int (r.k : Int) tk].toArray n) :: (D, tupOf [.ref sf, .ref lt, .str r.rf tr]) :: (lt, listOf ws.toArray nw) :: st)) (hpl : ∀ q ∈ (D, tupOf [.ref sf, .ref lt, .str r.rf tr]) :: (lt, listOf ws.toArray nw) :: st, q.1 ≠ pl)
    (hws : StrsAre ws r.ts) (hlo : (lo, listOf vs.toArray nn) ∈ st) (hvs : IntsAre vs ns) (hn : ns.length ≤ 200) (hb : ∀ x ∈ ns, 0 ≤ x ∧ x < 256) (hk1 : r.k ≤ 9000) (htl : r.ts.length ≤ 100)
    (X : List Nat) (hX : ∀ x ∈ X, ∃ o, (x, o) ∈ st) (hXl : ∀ x ∈ X, lt ≠ x)
    (hret : ∀ h₁ D' lt' ws' nw' n' tk1 tr' h' tk', KtsTurn (outer.filterMap (·.frame)) h₀ h₁ → Fr h₁ L h' m → News h₁ L h' ((pl, listOf [.int ((stepRS ns r).k : Int) tk1].toArray n') :: (D', tupOf [.ref sf, .ref lt', .str (stepRS ns r).rf tr']) :: (lt', listOf ws'.toArray nw') :: st) → StrsAre ws' (stepRS ns r).ts → D' ≠ pl → lt' ≠ pl → (∀ x ∈ X, lt' ≠ x) → Below A₀ base outer h₁ → (hd.heap_1 w.params).In h₁ → Top p loose mean mg mb h₁ → KtsDicts (outer.filterMap (·.frame)) h₁ → Q (.ref D') { s with heap := h', toks := tk' }) :
    wpAny (model Challenge.rw_il0109_01.row.prog w) (ktrTop dp un gd cn cs L a ccd [] outer) (call (.ref 91) [.ref D, .int i ti]) Q E s := by
  refine wpAny_call ?_
  revert KX XB; k_fill; intro KX XB
  have hwl := hws.length
  have hvl := hvs.length
  obtain ⟨sd, rf, c1, pc, oc, q, tq, nq, fd, doc, pm, ct, o1, o2, hs1, hs2, hs3, hs4, hs5, hs6, hs7, hs8⟩ := S
  k_dflt (refine' code_defS (by k_asm) (by k_asm) (by k_asm) (by k_asm) (by k_asm) (by assumption) (by assumption) (by assumption) (by exact KtsTurn.refl) (by exact rfl) (by first | ((k_is); done) | fail) (by first | ((k_is); done) | fail) (by first | ((ktr_room); done) | fail) (by first | ((first | exact BindsTo.of_eq rfl | exact binds_K (by k_in) rfl (by k_is) rfl rfl rfl); done) | fail) (by exact locs rfl) ?_ (by assumption) (by exact rfl) (by exact rfl) (by exact rfl) (by decide); k_whole; intro g' L' h' FG' F' N' B' X' T' D'; (try dsimp only); (try k_fold))
  (repeat' first | ((with_reducible show wpAny _ _ (call (Value.builtin "bytes.decode") [Value.bytes _ _, Value.str _ _]) _ _ _); k_dflt (refine' Mine.lat_decode (by first | (((rw [← KBw.ints_length, (by assumption : KBw.bInts _ = _)]; (simp only [List.length_take, List.length_drop]; walk_at "o"))); done) | fail) ?_); intro _ _) | ((with_reducible show wpAny _ _ (call (Value.builtin "len") [Value.bytes _ _]) _ _ _); k_dflt (refine' KBw.len_K (by assumption) (by first | (((simp only [List.length_take, List.length_drop]; walk_at "o")); done) | fail) ?_)) | ((with_reducible show wpAny _ _ (subscriptTail _ _ (Value.bytes _ _) (Value.int _ _)) _ _ _); k_dflt (refine' Mine.item_one (by assumption) ?_); intro _ _) | ((with_reducible show wpAny _ _ (truthy (Value.bytes _ _)) _ _ _); k_dflt (refine' KBw.truthy_K (by assumption) (by first | (((simp only [List.length_take, List.length_drop]; walk_at "o")); done) | fail) ?_)) | ((with_reducible show wpAny _ _ (exec (Stmt.Raise (some (Expr.Call (Expr.Name _ _) _ [] _)) none _) _) _ _ _); k_dflt (refine' Raise_madeB PySem.F.excCall_ValueError PySem.F.excRaise_ValueError rfl ?_)) | ((with_reducible show wpAny _ _ (call (Value.ref _) [Value.int _ _]) _ _ _); k_dflt (refine' Mine.c_rd _ _ _ _ _ _ _ _ _ _ _ _ _ _ _ _ _ _ (by k_asm) (by k_asm) (by k_asm) (by assumption) (by k_asm) (by rfl) (by first | ((ktr_room); done) | fail) (by first | ((ktr_units); done) | fail) _ _ _ _ _ _ _ _ _ _ _ _ _ _ _ _ _ _ _ (by k_asm) (by assumption) (by first | ((walk_at "mem"); done) | fail) (by first | ((exact Mine.CodeAt.mono (by assumption) (by walk_at "sub")); done) | fail) (by first | ((walk_at "mem"); done) | fail) (by assumption) (by first | ((walk_at "mem"); done) | fail) (by assumption) (by first | ((walk_at "mem"); done) | fail) (by assumption) (by assumption) (by assumption) (by walk_at "o") (by walk_at "o") (by walk_at "o") (by walk_at "o") _ (by assumption) ?_); intro _ _ _ _ _ _ _ _ _) | ((with_reducible show wpAny _ _ (getMethod (Value.ref _) _ _) _ _ _); k_dflt (refine' Mine.fn_get (by k_asm) (by k_asm) (by first | ((exact Mine.KNo.big (Mine.KNo.keeps (by assumption) (Below.stays (by assumption)))); done) | fail) (by first | ((exact Mine.KNo.keeps (by assumption) (Below.stays (by assumption))); done) | fail) (by rfl) (by first | ((((try simp only [depth_under_make, depth_under_kw, depth_in1, depth_deeper, depth_caller]); walk_at "o")); done) | fail) (by first | ((((try simp only [units_in1, units_deeper, Around.mark_units, units_caller]); walk_at "o")); done) | fail) _ _ _ _ _ _ _ (by first | ((walk_at "mem"); done) | fail) (by first | ((walk_at "mem"); done) | fail) (by rfl) ?_); intro _ _ _ _) | (((with_reducible show wpAny _ _ (binaryOp _ (Value.ref _) (Value.ref _)) _ _ _); (rename Fr _ _ _ _ => hF'); (rename News _ _ _ _ => hN'); (refine Mine.add_lists' hF' hN' (by walk_at "mem") (by walk_at "mem") ?_ (by walk_at "len") (by walk_at "len")); clear hF' hN'; intro _ _ _ _ l1; (try k_lt l1)); (try (revert l1; intro _))) | walk_at "g")
  · rename News h₀ _ _ _ => kN
    rename Fr h₀ _ _ _ => kF
    have e : stepRS ns r = r := if_neg h0
    rw [e] at hret
    exact hret _ _ _ _ _ _ _ _ _ _ KtsTurn.refl kF kN hws (hpl _ (.head _)) (hpl _ (.tail _ (.head _))) hXl B KX T DD
  · exfalso
    first
      | (rename ((r.rf != Str.ofString "") = false) => hx; rw [bne_eq_false_iff_eq] at hx; exact h0 hx)
      | (rename (¬ (r.rf != Str.ofString "") = true) => hx; simp only [bne_iff_ne, ne_eq, not_not] at hx; exact h0 hx)
      | (rename (decide (0 < [c].length) = false) => hx; simp at hx)
      | (rename (¬ decide (0 < [c].length) = true) => hx; simp at hx)
      | (rename (¬ 0 < [c].length) => hx; simp at hx)
theorem c_step1 {w : World} {p : Program} {loose : List Str} {mean : ExcName → Option Value} {mg mb : Str → Option Value}
  (dp un : Nat) (gd : Option (List Code)) (cn : Str) (cs : Scope) (a : Addr) (ccd : Value) (outer : List Env) (A₀ : Around) (base h₀ : Heap) (L : Addr) (m : Str → Option Value) (st : List (Addr × Obj)) (s : Shared)
    (Q E : Value → Shared → Prop)
    (B : Below A₀ base outer h₀) (F : Fr h₀ L s.heap m) (KX : (hd.heap_1 w.params).In h₀) (Cd : CodeHd base 83 79) (KN : KNo w.params base) (T : Top p loose mean mg mb h₀) (XB : (hd.heap_1 w.params).In base) (TB : Top p loose mean mg mb base) (DD : KtsDicts (outer.filterMap (·.frame)) h₀) (hk : cs.kind = .function) (hdp : dp + 30 < recursionLimit) (hu : un + 180 < cLine) (hd2 : dp ≤ 400) (hu2 : un ≤ 500)
    (pl sf lo D lt : Addr) (tk ti tr : Tok) (n nn nw : Nat) (vs ws : List Value) (ns : List Int) (i : Int) (r : RS) (h0 : r.rf = Str.ofString "") (hns : ns.drop r.k = []) (S : StreamAt w.params st sf lo pl)
    (N : News h₀ L s.heap ((pl, listOf [.int (r.k : Int) tk].toArray n) :: (D, tupOf [.ref sf, .ref lt, .str r.rf tr]) :: (lt, listOf ws.toArray nw) :: st)) (hpl : ∀ q ∈ (D, tupOf [.ref sf, .ref lt, .str r.rf tr]) :: (lt, listOf ws.toArray nw) :: st, q.1 ≠ pl)
    (hws : StrsAre ws r.ts) (hlo : (lo, listOf vs.toArray nn) ∈ st) (hvs : IntsAre vs ns) (hn : ns.length ≤ 200) (hb : ∀ x ∈ ns, 0 ≤ x ∧ x < 256) (hk1 : r.k ≤ 9000) (htl : r.ts.length ≤ 100)
    (X : List Nat) (hX : ∀ x ∈ X, ∃ o, (x, o) ∈ st) (hXl : ∀ x ∈ X, lt ≠ x)
    (hret : ∀ h₁ D' lt' ws' nw' n' tk1 tr' h' tk', KtsTurn (outer.filterMap (·.frame)) h₀ h₁ → Fr h₁ L h' m → News h₁ L h' ((pl, listOf [.int ((stepRS ns r).k : Int) tk1].toArray n') :: (D', tupOf [.ref sf, .ref lt', .str (stepRS ns r).rf tr']) :: (lt', listOf ws'.toArray nw') :: st) → StrsAre ws' (stepRS ns r).ts → D' ≠ pl → lt' ≠ pl → (∀ x ∈ X, lt' ≠ x) → Below A₀ base outer h₁ → (hd.heap_1 w.params).In h₁ → Top p loose mean mg mb h₁ → KtsDicts (outer.filterMap (·.frame)) h₁ → Q (.ref D') { s with heap := h', toks := tk' }) :
    wpAny (model Challenge.rw_il0109_01.row.prog w) (ktrTop dp un gd cn cs L a ccd [] outer) (call (.ref 91) [.ref D, .int i ti]) Q E s := by
  refine wpAny_call ?_
  revert KX XB; k_fill; intro KX XB
  have hwl := hws.length
  have hvl := hvs.length
  obtain ⟨ts, rf0, k0⟩ := r
  dsimp only at h0 hns N hpl hws hk1 htl hwl
  subst h0
  have hA1 : (ns.drop (k0 : Int).toNat).take (1 : Int).toNat = [] := by
    rw [Int.toNat_natCast, hns]; rfl
  obtain ⟨sd, rf, c1, pc, oc, q, tq, nq, fd, doc, pm, ct, o1, o2, hs1, hs2, hs3, hs4, hs5, hs6, hs7, hs8⟩ := S
  k_dflt (refine' code_defS (by k_asm) (by k_asm) (by k_asm) (by k_asm) (by k_asm) (by assumption) (by assumption) (by assumption) (by exact KtsTurn.refl) (by exact rfl) (by first | ((k_is); done) | fail) (by first | ((k_is); done) | fail) (by first | ((ktr_room); done) | fail) (by first | ((first | exact BindsTo.of_eq rfl | exact binds_K (by k_in) rfl (by k_is) rfl rfl rfl); done) | fail) (by exact locs rfl) ?_ (by assumption) (by exact rfl) (by exact rfl) (by exact rfl) (by decide); k_whole; intro g' L' h' FG' F' N' B' X' T' D'; (try dsimp only); (try k_fold))
  (repeat' first | ((with_reducible show wpAny _ _ (call (Value.builtin "bytes.decode") [Value.bytes _ _, Value.str _ _]) _ _ _); k_dflt (refine' Mine.lat_decode (by first | (((rw [← KBw.ints_length, (by assumption : KBw.bInts _ = _)]; (simp only [List.length_take, List.length_drop]; walk_at "o"))); done) | fail) ?_); intro _ _) | ((with_reducible show wpAny _ _ (call (Value.builtin "len") [Value.bytes _ _]) _ _ _); k_dflt (refine' KBw.len_K (by assumption) (by first | (((simp only [List.length_take, List.length_drop]; walk_at "o")); done) | fail) ?_)) | ((with_reducible show wpAny _ _ (subscriptTail _ _ (Value.bytes _ _) (Value.int _ _)) _ _ _); k_dflt (refine' Mine.item_one (by assumption) ?_); intro _ _) | ((with_reducible show wpAny _ _ (truthy (Value.bytes _ _)) _ _ _); k_dflt (refine' KBw.truthy_K (by assumption) (by first | (((simp only [List.length_take, List.length_drop]; walk_at "o")); done) | fail) ?_)) | ((with_reducible show wpAny _ _ (exec (Stmt.Raise (some (Expr.Call (Expr.Name _ _) _ [] _)) none _) _) _ _ _); k_dflt (refine' Raise_madeB PySem.F.excCall_ValueError PySem.F.excRaise_ValueError rfl ?_)) | ((with_reducible show wpAny _ _ (call (Value.ref _) [Value.int _ _]) _ _ _); k_dflt (refine' Mine.c_rd _ _ _ _ _ _ _ _ _ _ _ _ _ _ _ _ _ _ (by k_asm) (by k_asm) (by k_asm) (by assumption) (by k_asm) (by rfl) (by first | ((ktr_room); done) | fail) (by first | ((ktr_units); done) | fail) _ _ _ _ _ _ _ _ _ _ _ _ _ _ _ _ _ _ _ (by k_asm) (by assumption) (by first | ((walk_at "mem"); done) | fail) (by first | ((exact Mine.CodeAt.mono (by assumption) (by walk_at "sub")); done) | fail) (by first | ((walk_at "mem"); done) | fail) (by assumption) (by first | ((walk_at "mem"); done) | fail) (by assumption) (by first | ((walk_at "mem"); done) | fail) (by assumption) (by assumption) (by assumption) (by walk_at "o") (by walk_at "o") (by walk_at "o") (by walk_at "o") _ (by assumption) ?_); intro _ _ _ _ _ _ _ _ _) | ((with_reducible show wpAny _ _ (getMethod (Value.ref _) _ _) _ _ _); k_dflt (refine' Mine.fn_get (by k_asm) (by k_asm) (by first | ((exact Mine.KNo.big (Mine.KNo.keeps (by assumption) (Below.stays (by assumption)))); done) | fail) (by first | ((exact Mine.KNo.keeps (by assumption) (Below.stays (by assumption))); done) | fail) (by rfl) (by first | ((((try simp only [depth_under_make, depth_under_kw, depth_in1, depth_deeper, depth_caller]); walk_at "o")); done) | fail) (by first | ((((try simp only [units_in1, units_deeper, Around.mark_units, units_caller]); walk_at "o")); done) | fail) _ _ _ _ _ _ _ (by first | ((walk_at "mem"); done) | fail) (by first | ((walk_at "mem"); done) | fail) (by rfl) ?_); intro _ _ _ _) | (((with_reducible show wpAny _ _ (binaryOp _ (Value.ref _) (Value.ref _)) _ _ _); (rename Fr _ _ _ _ => hF'); (rename News _ _ _ _ => hN'); (refine Mine.add_lists' hF' hN' (by walk_at "mem") (by walk_at "mem") ?_ (by walk_at "len") (by walk_at "len")); clear hF' hN'; intro _ _ _ _ l1; (try k_lt l1)); (try (revert l1; intro _))) | walk_at "g")
  · rename KtsTurn (List.filterMap _ outer) h₀ _ => kT
    rename Fr _ L _ _ => kF
    rename News _ L _ _ => kN
    rename Below A₀ base outer _ => kB
    rename KtsDicts (List.filterMap _ outer) _ => kD
    have e : stepRS ns ⟨ts, Str.ofString "", k0⟩ = ⟨ts, notEnough, k0 + 1⟩ := by
      unfold stepRS
      rw [if_pos rfl]
      simp only [hns]
    have ei : ((k0 + 1 : Nat) : Int) = (k0 : Int) + 1 := by walk_at "o"
    rw [e] at hret
    dsimp only at hret
    rw [ei] at hret
    refine' hret _ _ _ _ _ _ _ _ _ _ kT kF (news_sub kN ?N) hws ?d1 ?d2 hXl kB (by assumption) (by assumption) kD
    case N => walk_at "sub"
    case d1 => exact neN (by walk_at "o")
    case d2 => exact hpl _ (.tail _ (.head _))
theorem c_step2 {w : World} {p : Program} {loose : List Str} {mean : ExcName → Option Value} {mg mb : Str → Option Value}
  (dp un : Nat) (gd : Option (List Code)) (cn : Str) (cs : Scope) (a : Addr) (ccd : Value) (outer : List Env) (A₀ : Around) (base h₀ : Heap) (L : Addr) (m : Str → Option Value) (st : List (Addr × Obj)) (s : Shared)
    (Q E : Value → Shared → Prop)
    (B : Below A₀ base outer h₀) (F : Fr h₀ L s.heap m) (KX : (hd.heap_1 w.params).In h₀) (Cd : CodeHd base 83 79) (KN : KNo w.params base) (T : Top p loose mean mg mb h₀) (XB : (hd.heap_1 w.params).In base) (TB : Top p loose mean mg mb base) (DD : KtsDicts (outer.filterMap (·.frame)) h₀) (hk : cs.kind = .function) (hdp : dp + 30 < recursionLimit) (hu : un + 180 < cLine) (hd2 : dp ≤ 400) (hu2 : un ≤ 500)
    (pl sf lo D lt : Addr) (tk ti tr : Tok) (n nn nw : Nat) (vs ws : List Value) (ns : List Int) (i : Int) (r : RS) (h0 : r.rf = Str.ofString "") (c : Int) (rest : List Int) (hns : ns.drop r.k = c :: rest) (S : StreamAt w.params st sf lo pl)
    (N : News h₀ L s.heap ((pl, listOf [.int (r.k : Int) tk].toArray n) :: (D, tupOf [.ref sf, .ref lt, .str r.rf tr]) :: (lt, listOf ws.toArray nw) :: st)) (hpl : ∀ q ∈ (D, tupOf [.ref sf, .ref lt, .str r.rf tr]) :: (lt, listOf ws.toArray nw) :: st, q.1 ≠ pl)
    (hws : StrsAre ws r.ts) (hlo : (lo, listOf vs.toArray nn) ∈ st) (hvs : IntsAre vs ns) (hn : ns.length ≤ 200) (hb : ∀ x ∈ ns, 0 ≤ x ∧ x < 256) (hk1 : r.k ≤ 9000) (htl : r.ts.length ≤ 100)
    (X : List Nat) (hX : ∀ x ∈ X, ∃ o, (x, o) ∈ st) (hXl : ∀ x ∈ X, lt ≠ x)
    (hret : ∀ h₁ D' lt' ws' nw' n' tk1 tr' h' tk', KtsTurn (outer.filterMap (·.frame)) h₀ h₁ → Fr h₁ L h' m → News h₁ L h' ((pl, listOf [.int ((stepRS ns r).k : Int) tk1].toArray n') :: (D', tupOf [.ref sf, .ref lt', .str (stepRS ns r).rf tr']) :: (lt', listOf ws'.toArray nw') :: st) → StrsAre ws' (stepRS ns r).ts → D' ≠ pl → lt' ≠ pl → (∀ x ∈ X, lt' ≠ x) → Below A₀ base outer h₁ → (hd.heap_1 w.params).In h₁ → Top p loose mean mg mb h₁ → KtsDicts (outer.filterMap (·.frame)) h₁ → Q (.ref D') { s with heap := h', toks := tk' }) :
    wpAny (model Challenge.rw_il0109_01.row.prog w) (ktrTop dp un gd cn cs L a ccd [] outer) (call (.ref 91) [.ref D, .int i ti]) Q E s := by
  refine wpAny_call ?_
  revert KX XB; k_fill; intro KX XB
  have hwl := hws.length
  have hvl := hvs.length
  obtain ⟨ts, rf0, k0⟩ := r
  dsimp only at h0 hns N hpl hws hk1 htl hwl
  subst h0
  have hA1 : (ns.drop (k0 : Int).toNat).take (1 : Int).toNat = [c] := by
    rw [Int.toNat_natCast, hns]; rfl
  have hns2 : ns.drop (k0 + 1) = rest := by
    rw [← List.drop_drop, hns]; rfl
  have hA2 : (ns.drop ((k0 : Int) + 1).toNat).take c.toNat = rest.take c.toNat := by
    rw [show ((k0 : Int) + 1).toNat = k0 + 1 by walk_at "o", hns2]
  obtain ⟨hc0, hc1⟩ := hb c (List.mem_of_mem_drop (hns ▸ List.Mem.head _))
  have hrl : rest.length ≤ 200 := by
    have := congrArg List.length hns
    simp only [List.length_drop, List.length_cons] at this
    walk_at "o"
  have hrl2 : (List.take c.toNat rest).length ≤ 200 := by
    rw [List.length_take]
    walk_at "o"
  obtain ⟨sd, rf, c1, pc, oc, q, tq, nq, fd, doc, pm, ct, o1, o2, hs1, hs2, hs3, hs4, hs5, hs6, hs7, hs8⟩ := S
  k_dflt (refine' code_defS (by k_asm) (by k_asm) (by k_asm) (by k_asm) (by k_asm) (by assumption) (by assumption) (by assumption) (by exact KtsTurn.refl) (by exact rfl) (by first | ((k_is); done) | fail) (by first | ((k_is); done) | fail) (by first | ((ktr_room); done) | fail) (by first | ((first | exact BindsTo.of_eq rfl | exact binds_K (by k_in) rfl (by k_is) rfl rfl rfl); done) | fail) (by exact locs rfl) ?_ (by assumption) (by exact rfl) (by exact rfl) (by exact rfl) (by decide); k_whole; intro g' L' h' FG' F' N' B' X' T' D'; (try dsimp only); (try k_fold))
  (repeat' first | ((with_reducible show wpAny _ _ (call (Value.builtin "bytes.decode") [Value.bytes _ _, Value.str _ _]) _ _ _); k_dflt (refine' Mine.lat_decode (by first | (((rw [← KBw.ints_length, (by assumption : KBw.bInts _ = _)]; (simp only [List.length_take, List.length_drop]; walk_at "o"))); done) | fail) ?_); intro _ _) | ((with_reducible show wpAny _ _ (call (Value.builtin "len") [Value.bytes _ _]) _ _ _); k_dflt (refine' KBw.len_K (by assumption) (by first | (((simp only [List.length_take, List.length_drop]; walk_at "o")); done) | fail) ?_)) | ((with_reducible show wpAny _ _ (subscriptTail _ _ (Value.bytes _ _) (Value.int _ _)) _ _ _); k_dflt (refine' Mine.item_one (by assumption) ?_); intro _ _) | ((with_reducible show wpAny _ _ (truthy (Value.bytes _ _)) _ _ _); k_dflt (refine' KBw.truthy_K (by assumption) (by first | (((simp only [List.length_take, List.length_drop]; walk_at "o")); done) | fail) ?_)) | ((with_reducible show wpAny _ _ (exec (Stmt.Raise (some (Expr.Call (Expr.Name _ _) _ [] _)) none _) _) _ _ _); k_dflt (refine' Raise_madeB PySem.F.excCall_ValueError PySem.F.excRaise_ValueError rfl ?_)) | ((with_reducible show wpAny _ _ (call (Value.ref _) [Value.int _ _]) _ _ _); k_dflt (refine' Mine.c_rd _ _ _ _ _ _ _ _ _ _ _ _ _ _ _ _ _ _ (by k_asm) (by k_asm) (by k_asm) (by assumption) (by k_asm) (by rfl) (by first | ((ktr_room); done) | fail) (by first | ((ktr_units); done) | fail) _ _ _ _ _ _ _ _ _ _ _ _ _ _ _ _ _ _ _ (by k_asm) (by assumption) (by first | ((walk_at "mem"); done) | fail) (by first | ((exact Mine.CodeAt.mono (by assumption) (by walk_at "sub")); done) | fail) (by first | ((walk_at "mem"); done) | fail) (by assumption) (by first | ((walk_at "mem"); done) | fail) (by assumption) (by first | ((walk_at "mem"); done) | fail) (by assumption) (by assumption) (by assumption) (by walk_at "o") (by walk_at "o") (by walk_at "o") (by walk_at "o") _ (by assumption) ?_); intro _ _ _ _ _ _ _ _ _) | ((with_reducible show wpAny _ _ (getMethod (Value.ref _) _ _) _ _ _); k_dflt (refine' Mine.fn_get (by k_asm) (by k_asm) (by first | ((exact Mine.KNo.big (Mine.KNo.keeps (by assumption) (Below.stays (by assumption)))); done) | fail) (by first | ((exact Mine.KNo.keeps (by assumption) (Below.stays (by assumption))); done) | fail) (by rfl) (by first | ((((try simp only [depth_under_make, depth_under_kw, depth_in1, depth_deeper, depth_caller]); walk_at "o")); done) | fail) (by first | ((((try simp only [units_in1, units_deeper, Around.mark_units, units_caller]); walk_at "o")); done) | fail) _ _ _ _ _ _ _ (by first | ((walk_at "mem"); done) | fail) (by first | ((walk_at "mem"); done) | fail) (by rfl) ?_); intro _ _ _ _) | (((with_reducible show wpAny _ _ (binaryOp _ (Value.ref _) (Value.ref _)) _ _ _); (rename Fr _ _ _ _ => hF'); (rename News _ _ _ _ => hN'); (refine Mine.add_lists' hF' hN' (by walk_at "mem") (by walk_at "mem") ?_ (by walk_at "len") (by walk_at "len")); clear hF' hN'; intro _ _ _ _ l1; (try k_lt l1)); (try (revert l1; intro _))) | walk_at "g")
  · rename Fr _ L _ _ => kF
    rename News _ L _ _ => kN
    rename (KBw.bInts _ = List.take c.toNat rest) => hbs
    rename (((List.take c.toNat rest).length : Nat) : Int) = c => hlen
    have hlt : ¬ rest.length < c.toNat := by
      rw [List.length_take] at hlen
      walk_at "o"
    have e : stepRS ns ⟨ts, Str.ofString "", k0⟩ = ⟨ts ++ [textOf (rest.take c.toNat)], Str.ofString "", k0 + 1 + c.toNat⟩ := by
      unfold stepRS
      rw [if_pos rfl]
      simp only [hns]
      rw [if_neg hlt]
    have ei : ((k0 + 1 + c.toNat : Nat) : Int) = (k0 : Int) + 1 + c := by walk_at "o"
    rw [e] at hret
    dsimp only at hret
    rw [ei] at hret
    rw [text_bytes hbs] at kN
    refine' hret _ _ _ _ _ _ _ _ _ _ KtsTurn.refl kF (news_sub kN ?N) (hws.append' (.cons _ _ .nil)) ?d1 ?d2 ?d3 B KX T DD
    case N => walk_at "sub"
    case d3 =>
      intro x hx
      obtain ⟨o9, h9⟩ := hX x hx
      refine Nat.ne_of_gt (allLt_mem (l := st) ?_ (x, o9) h9)
      (first | assumption | exact (by assumption : _ ∧ AllLt _ _).2 | exact (by assumption : _ ∧ _ ∧ AllLt _ _).2.2 | exact (by assumption : _ ∧ _ ∧ _ ∧ AllLt _ _).2.2.2 | exact (by assumption : _ ∧ _ ∧ _ ∧ _ ∧ AllLt _ _).2.2.2.2 | exact (by assumption : _ ∧ _ ∧ _ ∧ _ ∧ _ ∧ AllLt _ _).2.2.2.2.2 | exact (by assumption : _ ∧ _ ∧ _ ∧ _ ∧ _ ∧ _ ∧ AllLt _ _).2.2.2.2.2.2 | exact (by assumption : _ ∧ _ ∧ _ ∧ _ ∧ _ ∧ _ ∧ _ ∧ AllLt _ _).2.2.2.2.2.2.2 | exact (by assumption : _ ∧ _ ∧ _ ∧ _ ∧ _ ∧ _ ∧ _ ∧ _ ∧ AllLt _ _).2.2.2.2.2.2.2.2 | exact (by assumption : _ ∧ _ ∧ _ ∧ _ ∧ _ ∧ _ ∧ _ ∧ _ ∧ _ ∧ AllLt _ _).2.2.2.2.2.2.2.2.2)
    case d1 => exact neN (by walk_at "o")
    case d2 => exact neN (by walk_at "o")
  · rename KtsTurn (List.filterMap _ outer) h₀ _ => kT
    rename Fr _ L _ _ => kF
    rename News _ L _ _ => kN
    rename Below A₀ base outer _ => kB
    rename KtsDicts (List.filterMap _ outer) _ => kD
    rename (((List.take c.toNat rest).length : Nat) : Int) ≠ c => hlen
    have hlt : rest.length < c.toNat := by
      rw [List.length_take] at hlen
      walk_at "o"
    have hl2 : (List.take c.toNat rest).length = rest.length := by
      rw [List.length_take]
      walk_at "o"
    have e : stepRS ns ⟨ts, Str.ofString "", k0⟩ = ⟨ts, expectedMsg c rest.length, k0 + 1 + c.toNat⟩ := by
      unfold stepRS
      rw [if_pos rfl]
      simp only [hns]
      rw [if_pos hlt]
    have ei : ((k0 + 1 + c.toNat : Nat) : Int) = (k0 : Int) + 1 + c := by walk_at "o"
    rw [e] at hret
    dsimp only at hret
    rw [ei] at hret
    rw [hl2] at kN
    refine' hret _ _ _ _ _ _ _ _ _ _ kT kF (news_sub kN ?N) hws ?d1 ?d2 hXl kB (by assumption) (by assumption) kD
    case N => with_unfolding_all walk_at "sub"
    case d1 => exact neN (by walk_at "o")
    case d2 => exact hpl _ (.tail _ (.head _))
  · exfalso
    first
      | (rename ((r.rf != Str.ofString "") = false) => hx; rw [bne_eq_false_iff_eq] at hx; exact h0 hx)
      | (rename (¬ (r.rf != Str.ofString "") = true) => hx; simp only [bne_iff_ne, ne_eq, not_not] at hx; exact h0 hx)
      | (rename (decide (0 < [c].length) = false) => hx; simp at hx)
      | (rename (¬ decide (0 < [c].length) = true) => hx; simp at hx)
      | (rename (¬ 0 < [c].length) => hx; simp at hx)
end
section
theorem c_step {w : World} {p : Program} {loose : List Str} {mean : ExcName → Option Value} {mg mb : Str → Option Value}
  (dp un : Nat) (gd : Option (List Code)) (cn : Str) (cs : Scope) (a : Addr) (ccd : Value) (outer : List Env) (A₀ : Around) (base h₀ : Heap) (L : Addr) (m : Str → Option Value) (st : List (Addr × Obj)) (s : Shared)
    (Q E : Value → Shared → Prop)
    (B : Below A₀ base outer h₀) (F : Fr h₀ L s.heap m) (KX : (hd.heap_1 w.params).In h₀) (Cd : CodeHd base 83 79) (KN : KNo w.params base) (T : Top p loose mean mg mb h₀) (XB : (hd.heap_1 w.params).In base) (TB : Top p loose mean mg mb base) (DD : KtsDicts (outer.filterMap (·.frame)) h₀) (hk : cs.kind = .function) (hdp : dp + 30 < recursionLimit) (hu : un + 180 < cLine) (hd2 : dp ≤ 400) (hu2 : un ≤ 500)
    (pl sf lo D lt : Addr) (tk ti tr : Tok) (n nn nw : Nat) (vs ws : List Value) (ns : List Int) (i : Int) (r : RS) (S : StreamAt w.params st sf lo pl)
    (N : News h₀ L s.heap ((pl, listOf [.int (r.k : Int) tk].toArray n) :: (D, tupOf [.ref sf, .ref lt, .str r.rf tr]) :: (lt, listOf ws.toArray nw) :: st)) (hpl : ∀ q ∈ (D, tupOf [.ref sf, .ref lt, .str r.rf tr]) :: (lt, listOf ws.toArray nw) :: st, q.1 ≠ pl)
    (hws : StrsAre ws r.ts) (hlo : (lo, listOf vs.toArray nn) ∈ st) (hvs : IntsAre vs ns) (hn : ns.length ≤ 200) (hb : ∀ x ∈ ns, 0 ≤ x ∧ x < 256) (hk1 : r.k ≤ 9000) (htl : r.ts.length ≤ 100)
    (X : List Nat) (hX : ∀ x ∈ X, ∃ o, (x, o) ∈ st) (hXl : ∀ x ∈ X, lt ≠ x)
    (hret : ∀ h₁ D' lt' ws' nw' n' tk1 tr' h' tk', KtsTurn (outer.filterMap (·.frame)) h₀ h₁ → Fr h₁ L h' m → News h₁ L h' ((pl, listOf [.int ((stepRS ns r).k : Int) tk1].toArray n') :: (D', tupOf [.ref sf, .ref lt', .str (stepRS ns r).rf tr']) :: (lt', listOf ws'.toArray nw') :: st) → StrsAre ws' (stepRS ns r).ts → D' ≠ pl → lt' ≠ pl → (∀ x ∈ X, lt' ≠ x) → Below A₀ base outer h₁ → (hd.heap_1 w.params).In h₁ → Top p loose mean mg mb h₁ → KtsDicts (outer.filterMap (·.frame)) h₁ → Q (.ref D') { s with heap := h', toks := tk' }) :
    wpAny (model Challenge.rw_il0109_01.row.prog w) (ktrTop dp un gd cn cs L a ccd [] outer) (call (.ref 91) [.ref D, .int i ti]) Q E s := by
  by_cases h0 : r.rf = Str.ofString ""
  · cases hns : ns.drop r.k with
    | nil => exact c_step1 dp un gd cn cs a ccd outer A₀ base h₀ L m st s Q E B F KX Cd KN T XB TB DD hk hdp hu hd2 hu2 pl sf lo D lt tk ti tr n nn nw vs ws ns i r h0 hns S N hpl hws hlo hvs hn hb hk1 htl X hX hXl hret
    | cons c rest => exact c_step2 dp un gd cn cs a ccd outer A₀ base h₀ L m st s Q E B F KX Cd KN T XB TB DD hk hdp hu hd2 hu2 pl sf lo D lt tk ti tr n nn nw vs ws ns i r h0 c rest hns S N hpl hws hlo hvs hn hb hk1 htl X hX hXl hret
  · exact c_step0 dp un gd cn cs a ccd outer A₀ base h₀ L m st s Q E B F KX Cd KN T XB TB DD hk hdp hu hd2 hu2 pl sf lo D lt tk ti tr n nn nw vs ws ns i r h0 S N hpl hws hlo hvs hn hb hk1 htl X hX hXl hret
noncomputable def runRS (ns : List Int) : Nat → RS → RS
  | 0, r => r
  | i + 1, r => stepRS ns (runRS ns i r)
noncomputable def rs0 : RS := ⟨[], Str.ofString "", 0⟩
theorem step_bound {ns : List Int} (hb : ∀ x ∈ ns, 0 ≤ x ∧ x < 256) (r : RS) : (stepRS ns r).k ≤ r.k + 256 ∧ (stepRS ns r).ts.length ≤ r.ts.length + 1 := by
  unfold stepRS
  split
  · split
    · exact ⟨by dsimp only; walk_at "o", by dsimp only; walk_at "o"⟩
    · rename_i c rest hns
      obtain ⟨h0, h1⟩ := hb c (List.mem_of_mem_drop (hns ▸ List.Mem.head _))
      split
      · exact ⟨by dsimp only; walk_at "o", by dsimp only; walk_at "o"⟩
      · exact ⟨by dsimp only; walk_at "o", by simp⟩
  · exact ⟨by walk_at "o", by walk_at "o"⟩
theorem run_bound {ns : List Int} (hb : ∀ x ∈ ns, 0 ≤ x ∧ x < 256) : ∀ i, (runRS ns i rs0).k ≤ 256 * i ∧ (runRS ns i rs0).ts.length ≤ i
  | 0 => ⟨Nat.le_refl _, Nat.le_refl _⟩
  | i + 1 => by
    obtain ⟨h1, h2⟩ := run_bound hb i
    obtain ⟨h3, h4⟩ := step_bound hb (runRS ns i rs0)
    show (stepRS ns (runRS ns i rs0)).k ≤ _ ∧ (stepRS ns (runRS ns i rs0)).ts.length ≤ _
    walk_at "o"
end
section
noncomputable abbrev rangeOf (a b c : Int) (t u v : Tok) : Obj := { cls := .type "range", dict := none, data := .fields #[.int a t, .int b u, .int c v], slots := #[] }
noncomputable abbrev ritOf (x left step : Int) : Obj := { cls := .type "range_iterator", dict := none, data := .fields #[rawInt x, rawInt left, rawInt step], slots := #[] }
section
variable {prog : Program} {w : World} {A : Around} {E : Value → Shared → Prop} {s : Shared} {h₀ : Heap} {L : Addr} {m : Str → Option Value} {news : List (Addr × Obj)}
theorem iter_range {r : Addr} {a b c : Int} {t u v : Tok} {Q : Value → Shared → Prop} (F : Fr h₀ L s.heap m) (N : News h₀ L s.heap news) (hp : (r, rangeOf a b c t u v) ∈ news) (hs : Builtin.Range.small a b c = true)
    (h : ∀ (I : Addr) h', Fr h₀ L h' m → News h₀ L h' ((I, ritOf a (Builtin.Range.rangeSize a b c) c) :: news) → (∀ p ∈ news, p.1 < I) → Q (.ref I) { s with heap := h' }) :
    wpAny (model prog w) A (call (.builtin "iter") [.ref r]) Q E s := by
  refine call_function_entry (by decide +kernel) (by decide +kernel) kdk_entry_iter (kdk_args_iter _) ?_
  unfold Builtin.«iter»
  refine wpAny_bind (m := someArgs "iter" 1 2 _) (wpAny_of_eq (a := [Value.ref r]) (by first | rfl | kernel_rfl!) ?_)
  show wpAny _ _ (pyIter (.ref r) >>= _) _ _ _
  refine wpAny_bind (wpAny_pyIter_range (N _ hp).1 hs ?_)
  exact wpAny_pure ⟨_, rfl, h _ _ (F.push _) (News.push F N _ rfl) (fun q hq => Heap.lt_size (N q hq).1)⟩
end
section
variable {prog : Program} {w : World} {A₀ A : Around} {s : Shared} {base h₀ : Heap} {L : Addr} {m mg mb : Str → Option Value} {env : Env} {news : List (Addr × Obj)} {K : Frag} {p : Program} {loose : List Str} {mean : ExcName → Option Value}
  {R : Result → Shared → Prop} {qual name : Str} {params : Arguments} {body : List Stmt} {scope : Scope} {dV kV doc pm cdv ct oc : Value} {an od : Option Addr} {osl : Array (Option Value)} {f : Addr} {args : Args} {binds : List (Str × Value)}
/-- a call from the law's own frame, the frames below may be noted -/
theorem code_turn0 (B : Below A₀ base [] h₀) (F : Fr h₀ L s.heap m) (X₀ : K.In h₀) (N : News h₀ L s.heap news) (T : Top p loose mean mg mb h₀) (hA : A.frames = some [env]) (hf : env.frame = some L) (hke : env.scope.kind = .function)
    (ho : K.lookup f = some ⟨oc, od, .func (fnOf name qual params body scope dV kV doc pm an cdv ct), osl⟩) (hcd : codeIn K cdv qual = true) (hroom : A.depth < recursionLimit)
    (hbind : BindsTo s (fnOf name qual params body scope dV kV doc pm an cdv ct) args binds) (hloc : ∀ y ∈ binds, scope.names.lookup y.1 = some .local)
    (h : ∀ g L' h₁, Fr h₀ L g m → Fr g L' h₁ (fun y => binds.reverse.lookup y) → News g L' h₁ news → Below A base [env] g → K.In g → Top p loose mean mg mb g → KtsDicts ([env].filterMap (·.frame)) g →
      wpAny (model prog w) (A.deeper (envOf qual scope L' f cdv)) (execs body (envOf qual scope L' f cdv))
        (fun fl s' => LeaveS0 ([env].filterMap (·.frame)) h₀ L m g R (match fl with | .ret v => v | _ => .none) s')
        (fun e s' => wpAny (model prog w) (A.deeper (envOf qual scope L' f cdv)) (leaving (envOf qual scope L' f cdv) e) (fun _ s'' => R (.error e) s'') (fun e' s'' => R (.error e') s'') s')
        { s with heap := h₁, toks := s.toks + binds.length })
    (hco : scope.isCoroutine = false) (hgen : scope.isGenerator = false) (hk : scope.kind = .function)
    (hcell : ∀ x ∈ scope.names, x.2 ≠ .cell) : codeAny (model prog w) A (.call (.ref f) args) R s := by
  have X := X₀.keeps F.keep
  obtain ⟨FG, BG, st, _⟩ := groundX (R := R) B F N hA hf hke
  have hfr : [env].filterMap (·.frame) = [L] := by simp [hf]
  refine codeAny_call_def (fd := fnOf name qual params body scope dV kV doc pm an cdv ct) (body := body) (binds := binds) hroom (X _ _ ho) rfl (T.nolimit.keeps F.keep) (codeRec_of X hcd) rfl hbind hcell hloc (fun h₁ hns hk₁ => ?_) hco hgen hk
  have hD : KtsDicts ([env].filterMap (·.frame)) (hideAll s.heap (news.map (·.1))) := by
    rw [hfr]
    intro b hb
    obtain ⟨o, es, ep, e1, e2, _⟩ := FG.ns
    rw [List.mem_singleton.mp hb]
    exact ⟨o, es, ep, e1, e2⟩
  refine wpAny_mono (h _ s.heap.objs.size h₁ FG ⟨hns, fun b o e => hk₁ b o (of_hideAll _ e), Nat.le_of_eq (hideAll_size _ _)⟩
    (fun p hp => ⟨hk₁ _ _ (N p hp).1, Nat.ne_of_lt (Heap.lt_size (N p hp).1), hideAll_none _ (List.mem_map_of_mem hp)⟩) BG (X₀.keeps st) (T.keeps st) hD) (fun fl s' hl => ?_) fun _ _ y => y
  obtain ⟨g', L', m', news', T', F', N', k⟩ := hl
  obtain ⟨oL, es, ep, e1, e2, e3⟩ := FG.ns
  obtain ⟨sl, hs⟩ := T'.up e1
  have nL : h₀.get? L = none := kts_self F
  refine k ⟨⟨_, es, ep, F'.keep _ _ hs, e2, e3⟩, fun b o e => F'.keep b o (T'.other b o (st b o e) fun q => ?_), F.above⟩ fun p hp => ⟨(N' p hp).1, fun q => ?_, ?_⟩
  · rw [hfr] at q
    rw [List.mem_singleton.mp q, nL] at e
    cases e
  · have e := (N' p hp).2.2
    rw [q, hs] at e
    cases e
  · cases q : h₀.get? p.1 with
    | none => rfl
    | some o =>
      obtain ⟨sl', hs'⟩ := T'.up (st _ _ q)
      have e := (N' p hp).2.2
      rw [hs'] at e
      cases e
end
/-- what a call with a try keeps of the ground: frames turned alone, the top, the written part -/
structure Kept (fs : List Addr) (g' : Heap) (A : Around) (base : Heap) (envs : List Env) (K : Frag) (p : Program) (loose : List Str) (mean : ExcName → Option Value) (mg mb : Str → Option Value) (g : Heap) : Prop where
  k1 : KtsTurn fs g' g
  k2 : Below A base envs g
  k3 : K.In g
  k4 : Top p loose mean mg mb g
  k5 : KtsDicts fs g
end
section
theorem news_ne {h₀ : Heap} {L : Addr} {h : Heap} {base : List (Addr × Obj)} (N : News h₀ L h base) {a b : Addr} {o o' : Obj} (ha : (a, o) ∈ base) (hb : (b, o') ∈ base) (e : o ≠ o') : a ≠ b := fun q => by
  have h1 := (N _ ha).1
  have h2 := (N _ hb).1
  dsimp only at h1 h2
  rw [q, h2] at h1
  exact e (Option.some.inj h1).symm
/-- a turn's end: the ground may have turned -/
inductive TurnEnd (L I : Addr) (o : Obj) (s : Shared) (G : Heap → Prop) (Jn : (Str → Option Value) → List (Addr × Obj) → Prop) (f : Flow) (s' : Shared) : Prop
  | mk (hf : f = .next) (g' h' : Heap) (tk' : Nat) (m' : Str → Option Value) (nx' : List (Addr × Obj)) (e : s' = { s with heap := h', toks := tk' }) (hG : G g') (F : Fr g' L h' m') (N : News g' L h' ((I, o) :: nx')) (hne : ∀ p ∈ nx', p.1 ≠ I) (hJ : Jn m' nx') : TurnEnd L I o s G Jn f s'
inductive FT (s : Shared) (env : Env) (I : Addr) (a : Int) (n : Nat) (G : Heap → Prop) (J : Nat → (Str → Option Value) → List (Addr × Obj) → Prop) (k : Nat) (s' : Shared) : Prop
  | mk (i : Nat) (g h' : Heap) (tk' : Nat) (m' : Str → Option Value) (nx' : List (Addr × Obj)) (h1 : s' = { s with heap := h', toks := tk' }) (h2 : i ≤ n) (h3 : k = n - i) (h4 : G g) (h5 : Fr g env.locals h' m') (h6 : News g env.locals h' ((I, ritOf (a + (i : Int)) ((n : Int) - (i : Int)) 1) :: nx')) (h7 : (∀ p ∈ nx', p.1 ≠ I)) (h8 : J i m' nx') : FT s env I a n G J k s'
section
variable {prog : Program} {w : World} {A : Around} {E : Value → Shared → Prop} {s : Shared} {h₀ : Heap} {env : Env} {m : Str → Option Value} {news : List (Addr × Obj)}
theorem rit_step {g h h' : Heap} {L I : Addr} {o o' : Obj} {m : Str → Option Value} {nx : List (Addr × Obj)} (F : Fr g L h m) (N : News g L h ((I, o) :: nx)) (hne : ∀ p ∈ nx, p.1 ≠ I) (hs : Heap.SameBut I h h') (ho : h'.get? I = some o') :
    Fr g L h' m ∧ News g L h' ((I, o') :: nx) := by
  have n0 := N _ (.head _)
  refine ⟨F.change hs n0.2.1 n0.2.2, fun p hp => ?_⟩
  rcases List.mem_cons.mp hp with rfl | hp
  · exact ⟨ho, n0.2⟩
  · have n1 := N p (.tail _ hp)
    exact ⟨(hs.2 _ (hne p hp)).trans n1.1, n1.2⟩
/-- a for over a range iterator of the ledger; the ground may turn -/
theorem for_turn {x : Str} {px ppos : Pos} {iter : Expr} {body : List Stmt} {Q : Flow → Shared → Prop} {I : Addr} {a : Int} {n : Nat} (hh : A.handled = none) (hx : env.kindOf x = some .local)
    (hp : (env.scope.kind == .class || (env.scope.kind == .module && env.locals != env.globals)) = false) (G : Heap → Prop) (J : Nat → (Str → Option Value) → List (Addr × Obj) → Prop)
    (hi : ∀ (P : Value → Shared → Prop), P (.ref I) s → wpAny (model prog w) A (eval iter env) P E s)
    (hG : G h₀) (F : Fr h₀ env.locals s.heap m) (N : News h₀ env.locals s.heap ((I, ritOf a n 1) :: news)) (hne : ∀ p ∈ news, p.1 ≠ I) (hJ : J 0 m news)
    (step : ∀ i g m₁ nx h tk t, i < n → G g → J i m₁ nx → (∀ p ∈ nx, p.1 ≠ I) → Fr g env.locals h (fun y => if y = x then some (.int (a + (i : Int)) t) else m₁ y) → (∀ o, News g env.locals h ((I, o) :: nx) → o = ritOf (a + (i : Int) + 1) ((n : Int) - (i : Int) - 1) 1 → 
      wpAny (model prog w) A (execs body env) (TurnEnd env.locals I o s G (J (i + 1))) E { s with heap := h, toks := tk }))
    (fin : ∀ g m' nx' h' tk', G g → Fr g env.locals h' m' → News g env.locals h' nx' → J n m' nx' → Q .next { s with heap := h', toks := tk' })
    (hs : ∀ x, foldedSetIterable iter env x = pure x := by intro _; rfl)
    (hE : PassesOwn (model prog w) A env E := by passes_own) :
    wpAny (model prog w) A (exec (.For (.Name x px) iter body [] ppos) env) Q E s := by
  refine wpAny_For (hi _ (wpAny_pyIter_rangeiter (x := a) (left := n) (step := 1) (N _ (.head _)).1 ?_)) hs
  refine codeAny_forLoop (FT s env I a n G J) ?_ n
    ⟨0, h₀, s.heap, s.toks, m, news, rfl, Nat.zero_le _, rfl, hG, F, by simpa using N, hne, hJ⟩
  rintro k s' ⟨i, g, h', tk', m', nx', rfl, hin, rfl, hg, F', N', hne', hJ'⟩
  by_cases hlt : i < n
  · refine wpAny_pyNext_range_item (N' _ (.head _)).1 (by walk_at "o") fun h₁ hit hs₁ => ?_
    obtain ⟨F₁, N₁⟩ := rit_step F' N' hne' hs₁ hit
    refine wpAny_assign_Name (wpAny_storeName_local hx F₁.ns (fun h₂ hn₂ hs₂ => ?_) hp)
    have F₂ := F₁.set hn₂ hs₂
    have N₂ := N₁.set hs₂
    refine wpAny_passesOwn hE (wpAny_mono (step i g m' nx' h₂ _ _ hlt hg hJ' hne' F₂ _ N₂ rfl) (fun f s₃ h₃ => ?_) fun _ _ e => e)
    obtain ⟨rfl, g', h'', tk'', m'', nx'', rfl, hg', F₃, N₃, hne₃, hJ₃⟩ := h₃
    refine ⟨n - (i + 1), by walk_at "o", i + 1, g', h'', tk'', m'', nx'', rfl, hlt, rfl, hg', F₃, ?_, hne₃, hJ₃⟩
    have e1 : a + ((i + 1 : Nat) : Int) = a + (i : Int) + 1 := by walk_at "o"
    have e2 : (n : Int) - ((i + 1 : Nat) : Int) = (n : Int) - (i : Int) - 1 := by walk_at "o"
    rw [e1, e2]
    exact N₃
  · have hin' : i = n := by walk_at "o"
    subst hin'
    refine wpAny_pyNext_range_end hh (N' _ (.head _)).1 (by walk_at "o") fun h₁ he => wpAny_execs_nil ?_
    have n0 := N' _ (.head _)
    have F₁ : Fr g env.locals h₁ m' := ⟨F'.ns.at' fun o e => he _ o (fun q => n0.2.1 q.symm) e, fun b o e => he b o (fun q => by rw [q, n0.2.2] at e; cases e) (F'.keep b o e), F'.above⟩
    exact fin g m' nx' h₁ tk' hg F₁ (fun p hp => by
      have n1 := N' p (.tail _ hp)
      exact ⟨he _ _ (hne' p hp) n1.1, n1.2⟩) hJ'
end
section
variable {M : Model} {A : Around} {E : Value → Shared → Prop} {s : Shared}
theorem is_tuple_other {x y : Addr} {vs : Array Value} {n : Nat} {oy : Obj} {Q : Value → Shared → Prop} (hx : s.heap.get? x = some { cls := .type "tuple", data := .seq vs n }) (hy : s.heap.get? y = some oy) (hne : oy.cls ≠ .type "tuple") (h : Q (.bool false) s) :
    wpAny M A (compareOp .Is (.ref x) (.ref y)) Q E s := by
  have hxy : x ≠ y := fun e => hne (by rw [e, hy] at hx; cases hx; rfl)
  show wpAny M A (do return .bool (← isSame (.ref x) (.ref y))) Q E s
  refine wpAny_bind ?_
  unfold isSame
  show wpAny M A (if (x == y) = true then _ else _) _ _ _
  rw [if_neg (by simpa using hxy)]
  refine wpAny_bind (wpAny_load hx (wpAny_bind (wpAny_load hy ?_)))
  obtain ⟨oc, od, dt, sl⟩ := oy
  dsimp only at hne ⊢
  split
  · rename_i e1 e2 e3
    exact absurd rfl hne
  · exact wpAny_pure (wpAny_pure h)
end
end
section
local macro_rules | `(tactic| k_mem) => `(tactic| walk_at "mem")
inductive RJ (ns : List Int) (X : List Addr) (st : List (Addr × Obj)) (pl sf : Addr) (i : Nat) (m₁ : Str → Option Value) (nx : List (Addr × Obj)) : Prop
  | mk (D : Addr) (lt : Addr) (ws : List Value) (tk tr : Tok) (n nw : Nat) (h1 : nx = (pl, listOf [.int ((runRS ns i rs0).k : Int) tk].toArray n) :: (D, tupOf [.ref sf, .ref lt, .str (runRS ns i rs0).rf tr]) :: (lt, listOf ws.toArray nw) :: st) (h2 : StrsAre ws (runRS ns i rs0).ts) (h3 : D ≠ pl) (h4 : lt ≠ pl) (h5 : (∀ x ∈ X, lt ≠ x)) (h6 : m₁ (Str.ofString "function") = some (.ref 91)) (h7 : m₁ (Str.ofString "value") = some (.ref D)) : RJ ns X st pl sf i m₁ nx
theorem c_reduce {w : World} {p : Program} {loose : List Str} {mean : ExcName → Option Value} {mg mb : Str → Option Value}
  (dp un : Nat) (gd : Option (List Code)) (cn : Str) (cs : Scope) (a : Addr) (ccd : Value) (outer : List Env) (A₀ : Around) (base h₀ : Heap) (L : Addr) (m : Str → Option Value) (st : List (Addr × Obj)) (s : Shared)
    (Q E : Value → Shared → Prop)
    (B : Below A₀ base outer h₀) (F : Fr h₀ L s.heap m) (KX : (hd.heap_1 w.params).In h₀) (Cd : CodeHd base 83 79) (KN : KNo w.params base) (T : Top p loose mean mg mb h₀) (XB : (hd.heap_1 w.params).In base) (TB : Top p loose mean mg mb base) (DD : KtsDicts (outer.filterMap (·.frame)) h₀) (hk : cs.kind = .function) (hdp : dp + 50 < recursionLimit) (hu : un + 280 < cLine) (hd2 : dp ≤ 370) (hu2 : un ≤ 400)
    (pl sf lo D lt rg : Addr) (tk tr t0 t1 t2 : Tok) (n nn nw : Nat) (vs ws : List Value) (ns : List Int) (cnt : Nat) (hcnt : cnt ≤ 25) (r : RS) (hr : r = rs0) (S : StreamAt w.params st sf lo pl)
    (N : News h₀ L s.heap ((pl, listOf [.int (r.k : Int) tk].toArray n) :: (D, tupOf [.ref sf, .ref lt, .str r.rf tr]) :: (lt, listOf ws.toArray nw) :: st)) (hrg : (rg, rangeOf 0 (cnt : Int) 1 t0 t1 t2) ∈ st) (hsz0 : Builtin.Range.rangeSize 0 (cnt : Int) 1 = (cnt : Int)) (hsm : Builtin.Range.small 0 (cnt : Int) 1 = true) (hpl : ∀ q ∈ (D, tupOf [.ref sf, .ref lt, .str r.rf tr]) :: (lt, listOf ws.toArray nw) :: st, q.1 ≠ pl)
    (hws : StrsAre ws r.ts) (hlo : (lo, listOf vs.toArray nn) ∈ st) (hvs : IntsAre vs ns) (hn : ns.length ≤ 200) (hb : ∀ x ∈ ns, 0 ≤ x ∧ x < 256)
    (X : List Nat) (hX : ∀ x ∈ X, ∃ o, (x, o) ∈ st) (hXl : ∀ x ∈ X, lt ≠ x)
    (hret : ∀ h₁ D' lt' ws' nw' n' tk1 tr' h' tk', KtsTurn (outer.filterMap (·.frame)) h₀ h₁ → Fr h₁ L h' m → News h₁ L h' ((pl, listOf [.int ((runRS ns cnt rs0).k : Int) tk1].toArray n') :: (D', tupOf [.ref sf, .ref lt', .str (runRS ns cnt rs0).rf tr']) :: (lt', listOf ws'.toArray nw') :: st) → StrsAre ws' (runRS ns cnt rs0).ts → D' ≠ pl → lt' ≠ pl → (∀ x ∈ X, lt' ≠ x) → Below A₀ base outer h₁ → (hd.heap_1 w.params).In h₁ → Top p loose mean mg mb h₁ → KtsDicts (outer.filterMap (·.frame)) h₁ → Q (.ref D') { s with heap := h', toks := tk' }) :
    wpAny (model Challenge.rw_il0109_01.row.prog w) (ktrTop dp un gd cn cs L a ccd [] outer) (call (.ref 44) [.ref 91, .ref rg, .ref D]) Q E s := by
  refine wpAny_call ?_
  revert KX XB; k_fill; intro KX XB
  k_dflt refine' code_defS ?k1 ?k2 ?k3 ?k4 ?k5 ?XB ?TB ?D ?T0 ?kA ?k6 ?k7 ?k8 ?k9 ?kB ?_ ?cK ?c2 ?c3 ?c4 ?c5
  case kA => exact rfl
  case k2 => exact F
  case k1 => exact B
  case XB => exact XB
  case TB => exact TB
  case D => exact DD
  case T0 => exact KtsTurn.refl
  case k3 => exact KX
  case k4 => exact N
  case k5 => exact T
  case k6 => k_is
  case k7 => k_is
  case k8 => ktr_room
  case k9 => exact binds_K (KX.keeps F.keep) rfl (by k_is) rfl rfl rfl
  case kB => exact locs rfl
  case cK => exact hk
  case c2 => exact rfl
  case c3 => exact rfl
  case c4 => exact rfl
  case c5 => decide
  intro g' L' h' FG' F' N' B' X' T' D'
  (repeat' first | (((with_reducible show wpAny _ _ (compareOp CmpOp.Is (Value.ref _) (Value.ref _)) _ _ _); k_dflt (refine' Mine.is_tuple_other (by first | (((refine' kto_N (by k_asm) (by first | ((walk_at "mem"); done) | fail))); done) | fail) (by first | (((refine' kto_K (by first | ((k_in); done) | fail) (by first | ((k_is); done) | fail))); done) | fail) (by first | (((intro z; exact absurd (Value.type.inj z) (by decide))); done) | fail) ?_)); (try (revert z; intro _))) | (((with_reducible show wpAny _ _ (call (Value.builtin "iter") [Value.ref _]) _ _ _); k_dflt (refine' Mine.iter_range (by k_asm) (by k_asm) (by first | ((walk_at "mem"); done) | fail) (by assumption) ?_); intro _ _ _ _ l1; (try k_lt l1)); (try (revert l1; intro _))) | walk_at "g")
  rename News g' L' _ _ => N1
  rename Fr g' L' _ _ => F1
  rename (pl < _ ∧ _) => l1
  rename_i I _ _ _
  rw [hsz0] at N1
  have hIpl : I ≠ pl := neN (by walk_at "o")
  refine for_turn (h₀ := g') (I := I) (a := 0) (n := cnt) rfl rfl rfl
    (Kept ((envOf cn cs L a ccd :: outer).filterMap (·.frame)) g' (ktrTop dp un gd cn cs L a ccd [] outer) base (envOf cn cs L a ccd :: outer) (hd.heap_1 w.params) p loose mean mg mb)
    (RJ ns X st pl sf) ?_ ⟨KtsTurn.refl, B', X', T', D'⟩ F1 N1 ?_ ?_ ?_ ?_
  · intro P hP
    (first | (((with_reducible show wpAny _ _ (compareOp CmpOp.Is (Value.ref _) (Value.ref _)) _ _ _); k_dflt (refine' Mine.is_tuple_other (by first | (((refine' kto_N (by k_asm) (by first | ((walk_at "mem"); done) | fail))); done) | fail) (by first | (((refine' kto_K (by first | ((k_in); done) | fail) (by first | ((k_is); done) | fail))); done) | fail) (by first | (((intro z; exact absurd (Value.type.inj z) (by decide))); done) | fail) ?_)); (try (revert z; intro _))) | (((with_reducible show wpAny _ _ (call (Value.builtin "iter") [Value.ref _]) _ _ _); k_dflt (refine' Mine.iter_range (by k_asm) (by k_asm) (by first | ((walk_at "mem"); done) | fail) (by assumption) ?_); intro _ _ _ _ l1; (try k_lt l1)); (try (revert l1; intro _))) | walk_at "go1")
    exact hP
  · intro p hp
    obtain ⟨a1, a2, a3, a4⟩ := l1
    rcases List.mem_cons.mp hp with rfl | hp
    · exact neN (by walk_at "o")
    · rcases List.mem_cons.mp hp with rfl | hp
      · exact neN (by walk_at "o")
      · rcases List.mem_cons.mp hp with rfl | hp
        · exact neN (by walk_at "o")
        · exact tbn_neAll a4 p hp
  · subst hr
    exact ⟨D, lt, ws, _, _, _, _, rfl, hws, hpl _ (.head _), hpl _ (.tail _ (.head _)), hXl, (by with_unfolding_all rfl), (by with_unfolding_all rfl)⟩
  · rintro i g m₁ nx h tk3 t3 hi ⟨G1, G2, G3, G4, G5⟩ ⟨D2, lt2, ws2, tk2, tr2, n2, nw2, rfl, hws2, hD2, hlt2, hX2, hm1, hm2⟩ hneI F2 o N2 ho
    clear F1 N1 FG' B' X' T' D' 
    rw [mset hm1, mset hm2] at F2
    (repeat' (
  (fail_if_success (with_reducible show wpAny _ _ (call (Value.ref 91) _) _ _ _));
  (first | (k_unfold; (try dsimp only)) | (k_end; wrow_close) | (((with_reducible show wpAny _ _ (compareOp CmpOp.Is (Value.ref _) (Value.ref _)) _ _ _); k_dflt (refine' Mine.is_tuple_other (by first | (((refine' kto_N (by k_asm) (by first | ((walk_at "mem"); done) | fail))); done) | fail) (by first | (((refine' kto_K (by first | ((k_in); done) | fail) (by first | ((k_is); done) | fail))); done) | fail) (by first | (((intro z; exact absurd (Value.type.inj z) (by decide))); done) | fail) ?_)); (try (revert z; intro _))) | (((with_reducible show wpAny _ _ (call (Value.builtin "iter") [Value.ref _]) _ _ _); k_dflt (refine' Mine.iter_range (by k_asm) (by k_asm) (by first | ((walk_at "mem"); done) | fail) (by assumption) ?_); intro _ _ _ _ l1; (try k_lt l1)); (try (revert l1; intro _))) | walk1 | (dsimp only; walk1) | (leave1; walk_say "STEP leave1"; try dsimp only))))
    obtain ⟨b1, b2⟩ := run_bound hb i
    refine' c_step _ _ _ _ _ _ _ _ _ _ _ _ _ ((I, o) :: st) _ _ _ G2 F2 G3 Cd KN G4 XB TB G5 ?hk ?hdp ?hu ?hd2 ?hu2 pl sf lo D2 lt2 _ _ _ _ nn _ vs _ ns _ (runRS ns i rs0) (S.mono ?sm) (news_sub N2 ?N) ?hpl hws2 (.tail _ hlo) hvs hn hb ?hk1 ?htl X ?hX hX2 ?hret
    case hk => rfl
    case hdp => ktr_room
    case hu => ktr_units
    case hd2 => ((try simp only [depth_under_make, depth_under_kw, depth_in1, depth_deeper, depth_caller]); walk_at "o")
    case hu2 => ((try simp only [units_in1, units_deeper, Around.mark_units, units_caller]); walk_at "o")
    case sm => exact fun p hp => .tail _ hp
    case N => walk_at "sub"
    case hpl =>
      intro q hq
      rcases List.mem_cons.mp hq with rfl | hq
      · exact hD2
      · rcases List.mem_cons.mp hq with rfl | hq
        · exact hlt2
        · rcases List.mem_cons.mp hq with rfl | hq
          · exact hIpl
          · exact hpl _ (.tail _ (.tail _ hq))
    case hX =>
      intro x hx
      obtain ⟨o9, h9⟩ := hX x hx
      exact ⟨o9, .tail _ h9⟩
    case hk1 => walk_at "o"
    case htl => walk_at "o"
    case hret =>
      intro h₁ D' lt' ws' nw' n' tk1 tr' h' tk' kT kF kN kW kD kl kx9 kB kX kP kD5
      (repeat' (
  (fail_if_success (with_reducible show wpAny _ _ (call (Value.ref 91) _) _ _ _));
  (first | (k_unfold; (try dsimp only)) | (k_end; wrow_close) | (((with_reducible show wpAny _ _ (compareOp CmpOp.Is (Value.ref _) (Value.ref _)) _ _ _); k_dflt (refine' Mine.is_tuple_other (by first | (((refine' kto_N (by k_asm) (by first | ((walk_at "mem"); done) | fail))); done) | fail) (by first | (((refine' kto_K (by first | ((k_in); done) | fail) (by first | ((k_is); done) | fail))); done) | fail) (by first | (((intro z; exact absurd (Value.type.inj z) (by decide))); done) | fail) ?_)); (try (revert z; intro _))) | (((with_reducible show wpAny _ _ (call (Value.builtin "iter") [Value.ref _]) _ _ _); k_dflt (refine' Mine.iter_range (by k_asm) (by k_asm) (by first | ((walk_at "mem"); done) | fail) (by assumption) ?_); intro _ _ _ _ l1; (try k_lt l1)); (try (revert l1; intro _))) | walk1 | (dsimp only; walk1) | (leave1; walk_say "STEP leave1"; try dsimp only))))
      rename Fr h₁ L' _ _ => F4
      rename News h₁ L' _ _ => N4
      refine' ⟨rfl, h₁, _, _, _, _, rfl, ⟨G1.trans kT, kB, kX, kP, kD5⟩, F4, news_sub N4 ?s4, ?n4, ⟨D', lt', ws', _, _, _, _, rfl, kW, kD, kl, kx9, (by with_unfolding_all first | rfl | exact hm1), (by with_unfolding_all first | rfl | exact hm1)⟩⟩
      case s4 => walk_at "sub"
      case n4 =>
        intro q hq
        rcases List.mem_cons.mp hq with rfl | hq
        · exact hIpl.symm
        · rcases List.mem_cons.mp hq with rfl | hq
          · exact news_ne N4 (.tail _ (.head _)) (.tail _ (.tail _ (.tail _ (.head _)))) (by rw [ho]; intro e; exact absurd (Value.type.inj (congrArg (fun o : Obj => o.cls) e)) (by decide))
          · rcases List.mem_cons.mp hq with rfl | hq
            · exact news_ne N4 (.tail _ (.tail _ (.head _))) (.tail _ (.tail _ (.tail _ (.head _)))) (by rw [ho]; intro e; exact absurd (Value.type.inj (congrArg (fun o : Obj => o.cls) e)) (by decide))
            · exact hneI _ (.tail _ (.tail _ (.tail _ hq)))
  · rintro g m' nx' h' tk' ⟨G1, G2, G3, G4, G5⟩ F2 N2 ⟨D2, lt2, ws2, tk2, tr2, n2, nw2, rfl, hws2, hD2, hlt2, hX2, hm1, hm2⟩
    clear F1 N1 FG' B' X' T' D' 
    rw [mset hm1, mset hm2] at F2
    (repeat' (
  (fail_if_success (with_reducible show wpAny _ _ (call (Value.ref 91) _) _ _ _));
  (first | (k_unfold; (try dsimp only)) | (k_end; wrow_close) | (((with_reducible show wpAny _ _ (compareOp CmpOp.Is (Value.ref _) (Value.ref _)) _ _ _); k_dflt (refine' Mine.is_tuple_other (by first | (((refine' kto_N (by k_asm) (by first | ((walk_at "mem"); done) | fail))); done) | fail) (by first | (((refine' kto_K (by first | ((k_in); done) | fail) (by first | ((k_is); done) | fail))); done) | fail) (by first | (((intro z; exact absurd (Value.type.inj z) (by decide))); done) | fail) ?_)); (try (revert z; intro _))) | (((with_reducible show wpAny _ _ (call (Value.builtin "iter") [Value.ref _]) _ _ _); k_dflt (refine' Mine.iter_range (by k_asm) (by k_asm) (by first | ((walk_at "mem"); done) | fail) (by assumption) ?_); intro _ _ _ _ l1; (try k_lt l1)); (try (revert l1; intro _))) | walk1 | (dsimp only; walk1) | (leave1; walk_say "STEP leave1"; try dsimp only))))
    rename KtsTurn (List.filterMap _ outer) h₀ _ => kT
    rename Fr _ L _ _ => kF
    rename News _ L _ _ => kN
    rename Below A₀ base outer _ => kB
    rename KtsDicts (List.filterMap _ outer) _ => kD
    exact hret _ _ _ _ _ _ _ _ _ _ kT kF kN hws2 hD2 hlt2 hX2 kB (by assumption) (by assumption) kD
end
section
theorem range1_own {prog : Program} {w : World} {A : Around} {E : Value → Shared → Prop} {s : Shared} {h₀ : Heap} {L : Addr} {m : Str → Option Value} {news : List (Addr × Obj)} {n : Int} {t : Tok} {Q : Value → Shared → Prop} (F : Fr h₀ L s.heap m) (N : News h₀ L s.heap news)
    (h : ∀ (r : Addr) h' tk t₁ u₁ v₁, Fr h₀ L h' m → News h₀ L h' ((r, rangeOf 0 n 1 t₁ u₁ v₁) :: news) → (∀ p ∈ news, p.1 < r) → Q (.ref r) { s with heap := h', toks := tk }) :
    wpAny (model prog w) A (call (.type "range") [.int n t]) Q E s :=
  range1_rows F N fun h' tk t₁ u₁ v₁ hr F' N' _ => h _ h' tk t₁ u₁ v₁ F' (fun p hp => by
    rcases List.mem_cons.mp hp with rfl | hp
    · exact ⟨hr, Nat.ne_of_gt F.ns.lt, next_is_new F⟩
    · exact N' p hp) fun p hp => Heap.lt_size (N p hp).1
theorem updF_addr {a : Addr} {o : Obj} {l : List (Addr × Obj)} {g : Obj → List (Addr × Obj)} (U : UpdF a o l g) {p : Addr × Obj} (hp : p ∈ l) (x : Obj) : ∃ o', (p.1, o') ∈ g x := by
  obtain ⟨pre, post, e1, e2, _, _⟩ := U.split
  rw [e1] at hp
  rw [e2]
  rcases List.mem_append.mp hp with hp | hp
  · exact ⟨p.2, List.mem_append_left _ hp⟩
  · rcases List.mem_cons.mp hp with rfl | hp
    · exact ⟨x, List.mem_append_right _ (.head _)⟩
    · exact ⟨p.2, List.mem_append_right _ (.tail _ hp)⟩
local macro_rules | `(tactic| k_mem) => `(tactic| walk_at "mem")
theorem c_stream {w : World} {p : Program} {loose : List Str} {mean : ExcName → Option Value} {mg mb : Str → Option Value}
  (dp un : Nat) (gd : Option (List Code)) (cn : Str) (cs : Scope) (a : Addr) (ccd : Value) (cl : List (Str × Addr)) (outer : List Env) (A₀ : Around) (base h₀ : Heap) (L : Addr) (m : Str → Option Value) (news : List (Addr × Obj)) (s : Shared)
    (Q E : Value → Shared → Prop)
    (B : Below A₀ base outer h₀) (F : Fr h₀ L s.heap m) (KX : (hd.heap_1 w.params).In h₀) (Cd : CodeHd base 83 79) (KN : KNo w.params base) (T : Top p loose mean mg mb h₀) (hk : cs.kind = .function) (hd : dp + 10 < recursionLimit) (hu : un + 80 < cLine) (hd2 : dp ≤ 400) (hu2 : un ≤ 500)
    (N : News h₀ L s.heap news) (g : Obj → List (Addr × Obj)) (ps : Array Value) (U : UpdF 79 (tabObj ps) news g) (ht : ps = #[] ∨ TabSt news ps) (lo : Addr)
    (hret : ∀ (sf pl : Addr) (own : List (Addr × Obj)) (tk0 : Tok) (n0 : Nat) (ps' : Array Value) h' tk', Fr h₀ L h' m → News h₀ L h' ((pl, listOf [.int 0 tk0].toArray n0) :: (own ++ g (tabObj ps'))) → StreamAt w.params (own ++ g (tabObj ps')) sf lo pl → (TabSt own ps' ∨ TabSt news ps) →
      (∀ p ∈ news, p.1 < pl) → (∀ q ∈ own, q.1 ≠ pl ∧ ∀ p ∈ news, p.1 < q.1) → Q (.ref sf) { s with heap := h', toks := tk' }) :
    wpAny (model Challenge.rw_il0109_01.row.prog w) (ktrTop dp un gd cn cs L a ccd cl outer) (call (.ref 84) [.ref lo]) Q E s := by
  rcases ht with rfl | ht
  · exact c_stream1 dp un gd cn cs a ccd cl outer A₀ base h₀ L m news s Q E B F KX Cd KN T hk hd hu hd2 hu2 N g U lo fun sf pl own tk0 n0 ps' h' tk' a b c d e f => hret sf pl own tk0 n0 ps' h' tk' a b c (.inl d) e f
  · exact c_stream2 dp un gd cn cs a ccd cl outer A₀ base h₀ L m news s Q E B F KX Cd KN T hk hd hu hd2 hu2 N g ps U ht lo fun sf pl own tk0 n0 ps' h' tk' a b c d e f => hret sf pl own tk0 n0 ps' h' tk' a b c (.inr ht) e f
theorem updF_keep {a b : Nat} {o ob : Obj} {l : List (Addr × Obj)} {g : Obj → List (Addr × Obj)} (u : UpdF a o l g) (h : (b, ob) ∈ l) (hne : b ≠ a) (o' : Obj) : (b, ob) ∈ g o' := by
  obtain ⟨pre, post, e1, e2, _, _⟩ := u.split
  rw [e1] at h
  rw [e2]
  rcases List.mem_append.mp h with h | h
  · exact List.mem_append_left _ h
  · rcases List.mem_cons.mp h with h | h
    · cases h; exact absurd rfl hne
    · exact List.mem_append_right _ (.tail _ h)
theorem c_read {w : World} {p : Program} {loose : List Str} {mean : ExcName → Option Value} {mg mb : Str → Option Value}
  (dp un : Nat) (gd : Option (List Code)) (cn : Str) (cs : Scope) (a : Addr) (ccd : Value) (cl : List (Str × Addr)) (A₀ : Around) (base h₀ : Heap) (L : Addr) (m : Str → Option Value) (news : List (Addr × Obj)) (s : Shared)
    (Q E : Value → Shared → Prop)
    (B : Below A₀ base [] h₀) (F : Fr h₀ L s.heap m) (KX : (hd.heap_1 w.params).In h₀) (Cd : CodeHd base 83 79) (KN : KNo w.params base) (T : Top p loose mean mg mb h₀) (XB : (hd.heap_1 w.params).In base) (TB : Top p loose mean mg mb base) (hk : cs.kind = .function) (hdp : dp + 60 < recursionLimit) (hu : un + 380 < cLine) (hd2 : dp ≤ 350) (hu2 : un ≤ 300)
    (N : News h₀ L s.heap news) (g : Obj → List (Addr × Obj)) (ps : Array Value) (U : UpdF 79 (tabObj ps) news g) (hps : ps = #[] ∨ TabSt news ps)
    (lo : Addr) (nn : Nat) (vs : List Value) (ns : List Int) (cnt : Nat) (tc : Tok) (hcnt : cnt ≤ 24)
    (hlo : (lo, listOf vs.toArray nn) ∈ news) (hvs : IntsAre vs ns) (hn : ns.length ≤ 200) (hb : ∀ x ∈ ns, 0 ≤ x ∧ x < 256)
    (hret : ∀ D lt ws n ps' own t h' tk', Fr h₀ L h' m → News h₀ L h' ((D, tupOf [.ref lt, .str (runRS ns (cnt + 1) rs0).rf t]) :: (lt, listOf ws.toArray n) :: (own ++ g (tabObj ps'))) → StrsAre ws (runRS ns (cnt + 1) rs0).ts → (TabSt own ps' ∨ TabSt news ps) → (∀ q ∈ own, ∀ p ∈ news, p.1 < q.1) → (∀ p ∈ news, D ≠ p.1 ∧ lt ≠ p.1) → Q (.ref D) { s with heap := h', toks := tk' }) :
    wpAny (model Challenge.rw_il0109_01.row.prog w) (ktrTop dp un gd cn cs L a ccd cl []) (call (.ref 98) [.ref lo, .int (cnt : Int) tc]) Q E s := by
  refine wpAny_call ?_
  revert KX XB; k_fill; intro KX XB
  k_dflt refine' code_turn0 (env := envX cn cs L a ccd cl) ?k1 ?k2 ?k3 ?k4 ?k5 ?kA ?kF ?kK ?k6 ?k7 ?k8 ?k9 ?kB ?_ ?c2 ?c3 ?c4 ?c5
  case kA => exact rfl
  case kF => exact rfl
  case kK => exact hk
  case k2 => exact F
  case k1 => exact B
  case k3 => exact KX
  case k4 => exact N
  case k5 => exact T
  case k6 => k_is
  case k7 => k_is
  case k8 => ktr_room
  case k9 => exact BindsTo.of_eq rfl
  case kB => exact locs rfl
  case c2 => exact rfl
  case c3 => exact rfl
  case c4 => exact rfl
  case c5 => decide
  intro g' L' h' FG' F' N' B' X' T' D'
  (repeat' (
  (fail_if_success (with_reducible show wpAny _ _ (call (Value.ref 84) _) _ _ _));
  (fail_if_success (with_reducible show wpAny _ _ (call (Value.ref 44) _) _ _ _));
  (first | (k_unfold; (try dsimp only)) | (k_end; wrow_close) | ((with_reducible show wpAny _ _ (call (Value.type "range") [Value.int _ _]) _ _ _); k_dflt (refine' Mine.range1_own (by k_asm) (by k_asm) ?_); intro _ _ _ _ _ _ _ _ _) | walk1 | (dsimp only; walk1) | (leave1; walk_say "STEP leave1"; try dsimp only))))
  rename Fr g' L' _ _ => F1
  rename News g' L' _ _ => N1
  rename (∀ p ∈ news, p.1 < _) => l1
  rename_i rg hh1 tkk1 t1 u1 v1
  have l79 := nat_lt (l1 _ (updF_in U))
  dsimp only at l79
  refine' c_stream _ _ _ _ _ _ _ _ _ _ _ _ _ _ _ _ _ _ B' F1 X' Cd KN T' ?hk ?hd ?hu ?hd2 ?hu2 N1 _ ps (UpdF.tail ?ne U) ?ht lo ?hret
  case hk => rfl
  case hd => ktr_room
  case hu => ktr_units
  case hd2 => ((try simp only [depth_under_make, depth_under_kw, depth_in1, depth_deeper, depth_caller]); walk_at "o")
  case hu2 => ((try simp only [units_in1, units_deeper, Around.mark_units, units_caller]); walk_at "o")
  case ne => exact neN (by dsimp only; walk_at "o")
  case ht => exact hps.imp id fun x => x.mono fun p hp => .tail _ hp
  case hret =>
    intro sf pl own tk0 n0 ps' h2 tk2 F2 N2 S2 tab2 hpl2 hown2
    have hlo79 : lo ≠ 79 := news_ne N1 (.tail _ hlo) (.tail _ (updF_in U)) (fun e => by cases e)
    have hstp : ∀ q ∈ own ++ ((rg, rangeOf 0 ((cnt : Int) + 1) 1 t1 u1 v1) :: g (tabObj ps')), q.1 ≠ pl := by
      intro q hq
      rcases List.mem_append.mp hq with hq | hq
      · exact (hown2 q hq).1
      · rcases List.mem_cons.mp hq with rfl | hq
        · exact Nat.ne_of_lt (hpl2 _ (.head _))
        · exact Nat.ne_of_lt (updF_lt U (fun p hp => hpl2 p (.tail _ hp)) _ q hq)
    have hst1 : ∀ q ∈ own ++ [(rg, rangeOf 0 ((cnt : Int) + 1) 1 t1 u1 v1)], ∀ p ∈ news, p.1 < q.1 := by
      intro q hq p hp
      rcases List.mem_append.mp hq with hq | hq
      · exact (hown2 q hq).2 p (.tail _ hp)
      · rw [List.mem_singleton.mp hq]
        exact l1 p hp
    have e3 : own ++ ((rg, rangeOf 0 ((cnt : Int) + 1) 1 t1 u1 v1) :: g (tabObj ps')) = (own ++ [(rg, rangeOf 0 ((cnt : Int) + 1) 1 t1 u1 v1)]) ++ g (tabObj ps') := by simp
    have hlo2 : (lo, listOf vs.toArray nn) ∈ own ++ ((rg, rangeOf 0 ((cnt : Int) + 1) 1 t1 u1 v1) :: g (tabObj ps')) := List.mem_append_right _ (.tail _ (updF_keep U hlo hlo79 _))
    have hrg2 : (rg, rangeOf 0 ((cnt : Int) + 1) 1 t1 u1 v1) ∈ own ++ ((rg, rangeOf 0 ((cnt : Int) + 1) 1 t1 u1 v1) :: g (tabObj ps')) := List.mem_append_right _ (.head _)
    rw [e3] at N2 S2 hstp hlo2 hrg2
    have tab3 : TabSt (own ++ [(rg, rangeOf 0 ((cnt : Int) + 1) 1 t1 u1 v1)]) ps' ∨ TabSt news ps := by
      rcases tab2 with h9 | h9
      · exact .inl (h9.mono fun p hp => List.mem_append_left _ hp)
      · rcases hps with h8 | h8
        · obtain ⟨_, _, h7, _⟩ := h9
          rw [h8] at h7
          cases h7
        · exact .inr h8
    obtain ⟨own2, hown3⟩ : ∃ o, o = own ++ [(rg, rangeOf 0 ((cnt : Int) + 1) 1 t1 u1 v1)] := ⟨_, rfl⟩
    rw [← hown3] at N2 S2 tab3 hstp hst1 hlo2 hrg2
    clear e3 hown3 hown2
    obtain ⟨st, est⟩ : ∃ st, st = own2 ++ g (tabObj ps') := ⟨_, rfl⟩
    rw [← est] at N2 S2 hstp hlo2 hrg2
    (repeat' (
  (fail_if_success (with_reducible show wpAny _ _ (call (Value.ref 84) _) _ _ _));
  (fail_if_success (with_reducible show wpAny _ _ (call (Value.ref 44) _) _ _ _));
  (first | (k_unfold; (try dsimp only)) | (k_end; wrow_close) | ((with_reducible show wpAny _ _ (call (Value.type "range") [Value.int _ _]) _ _ _); k_dflt (refine' Mine.range1_own (by k_asm) (by k_asm) ?_); intro _ _ _ _ _ _ _ _ _) | walk1 | (dsimp only; walk1) | (leave1; walk_say "STEP leave1"; try dsimp only))))
    rename Fr g' L' _ _ => F3
    rename News g' L' _ _ => N3
    rename_i lt0 _ l3 D0 _ l4
    have hD0 : D0 ≠ pl := neN (by walk_at "o")
    have hl0 : lt0 ≠ pl := neN (by walk_at "o")
    have ecast : ((cnt + 1 : Nat) : Int) = (cnt : Int) + 1 := rfl
    rw [← ecast] at hrg2
    refine' c_reduce _ _ _ _ _ _ _ _ _ _ _ _ _ st _ _ _ B' F3 X' Cd KN T' XB TB D' ?hk ?hdp ?hu ?hd2 ?hu2 pl sf lo D0 lt0 rg _ _ t1 u1 v1 _ nn _ vs [] ns (cnt + 1) ?hcnt rs0 rfl S2 (news_sub N3 ?N) hrg2 ?hsz0 ?hsm ?hpl (.nil) hlo2 hvs hn hb (news.map (·.1)) ?hX ?hXl ?hret
    case hX =>
      intro x hx
      obtain ⟨p, hp, rfl⟩ := List.mem_map.mp hx
      obtain ⟨o9, h9⟩ := updF_addr U hp (tabObj ps')
      exact ⟨o9, by rw [est]; exact List.mem_append_right _ h9⟩
    case hXl =>
      intro x hx
      obtain ⟨p, hp, rfl⟩ := List.mem_map.mp hx
      obtain ⟨o9, h9⟩ := updF_addr U hp (tabObj ps')
      refine Nat.ne_of_gt (allLt_mem (l := st) ?_ (p.1, o9) (by rw [est]; exact List.mem_append_right _ h9))
      (first | assumption | exact (by assumption : _ ∧ AllLt _ _).2 | exact (by assumption : _ ∧ _ ∧ AllLt _ _).2.2 | exact (by assumption : _ ∧ _ ∧ _ ∧ AllLt _ _).2.2.2 | exact (by assumption : _ ∧ _ ∧ _ ∧ _ ∧ AllLt _ _).2.2.2.2 | exact (by assumption : _ ∧ _ ∧ _ ∧ _ ∧ _ ∧ AllLt _ _).2.2.2.2.2 | exact (by assumption : _ ∧ _ ∧ _ ∧ _ ∧ _ ∧ _ ∧ AllLt _ _).2.2.2.2.2.2 | exact (by assumption : _ ∧ _ ∧ _ ∧ _ ∧ _ ∧ _ ∧ _ ∧ AllLt _ _).2.2.2.2.2.2.2 | exact (by assumption : _ ∧ _ ∧ _ ∧ _ ∧ _ ∧ _ ∧ _ ∧ _ ∧ AllLt _ _).2.2.2.2.2.2.2.2 | exact (by assumption : _ ∧ _ ∧ _ ∧ _ ∧ _ ∧ _ ∧ _ ∧ _ ∧ _ ∧ AllLt _ _).2.2.2.2.2.2.2.2.2)
    case hk => rfl
    case hdp => ktr_room
    case hu => ktr_units
    case hd2 => ((try simp only [depth_under_make, depth_under_kw, depth_in1, depth_deeper, depth_caller]); walk_at "o")
    case hu2 => ((try simp only [units_in1, units_deeper, Around.mark_units, units_caller]); walk_at "o")
    case hcnt => walk_at "o"
    case N => with_unfolding_all walk_at "sub"
    case hsz0 =>
      rw [rangeSize_nat]
      walk_at "o"
    case hsm =>
      have key : ∀ c < 25, Builtin.Range.small 0 ((c + 1 : Nat) : Int) 1 = true := by decide +kernel
      exact key cnt (by walk_at "o")
    case hpl =>
      intro q hq
      rcases List.mem_cons.mp hq with rfl | hq
      · exact hD0
      · rcases List.mem_cons.mp hq with rfl | hq
        · exact hl0
        · exact hstp q hq
    case hret =>
      intro h₁ D1 lt1 ws1 nw1 n1 tk1 tr1 h3 tk3 kT kF kN kW kD kl kx9 kB kX kP kD5
      clear F3 N3 FG' B' X' T' D'
      (repeat' (
  (fail_if_success (with_reducible show wpAny _ _ (call (Value.ref 84) _) _ _ _));
  (fail_if_success (with_reducible show wpAny _ _ (call (Value.ref 44) _) _ _ _));
  (first | (k_unfold; (try dsimp only)) | (k_end; wrow_close) | ((with_reducible show wpAny _ _ (call (Value.type "range") [Value.int _ _]) _ _ _); k_dflt (refine' Mine.range1_own (by k_asm) (by k_asm) ?_); intro _ _ _ _ _ _ _ _ _) | walk1 | (dsimp only; walk1) | (leave1; walk_say "STEP leave1"; try dsimp only))))
      rename Fr h₀ _ _ _ => kF9
      rename News h₀ _ _ _ => kN9
      rw [est] at kN9
      refine hret _ _ _ _ _ _ _ _ _ kF9 (news_sub kN9 (by walk_at "sub")) kW tab3 hst1 ?_
      intro p hp
      obtain ⟨o9, h9⟩ := updF_addr U hp (tabObj ps')
      refine ⟨Nat.ne_of_gt (allLt_mem (l := st) ?_ (p.1, o9) (by rw [est]; exact List.mem_append_right _ h9)), kx9 _ (List.mem_map_of_mem hp)⟩
      (first | assumption | exact (by assumption : _ ∧ AllLt _ _).2 | exact (by assumption : _ ∧ _ ∧ AllLt _ _).2.2 | exact (by assumption : _ ∧ _ ∧ _ ∧ AllLt _ _).2.2.2 | exact (by assumption : _ ∧ _ ∧ _ ∧ _ ∧ AllLt _ _).2.2.2.2 | exact (by assumption : _ ∧ _ ∧ _ ∧ _ ∧ _ ∧ AllLt _ _).2.2.2.2.2 | exact (by assumption : _ ∧ _ ∧ _ ∧ _ ∧ _ ∧ _ ∧ AllLt _ _).2.2.2.2.2.2 | exact (by assumption : _ ∧ _ ∧ _ ∧ _ ∧ _ ∧ _ ∧ _ ∧ AllLt _ _).2.2.2.2.2.2.2 | exact (by assumption : _ ∧ _ ∧ _ ∧ _ ∧ _ ∧ _ ∧ _ ∧ _ ∧ AllLt _ _).2.2.2.2.2.2.2.2 | exact (by assumption : _ ∧ _ ∧ _ ∧ _ ∧ _ ∧ _ ∧ _ ∧ _ ∧ _ ∧ AllLt _ _).2.2.2.2.2.2.2.2.2)
end
section
section
variable {prog : Program} {w : World} {A : Around} {E : Value → Shared → Prop} {s : Shared} {h₀ : Heap} {L : Addr} {m : Str → Option Value} {news : List (Addr × Obj)}
theorem readsAll_of_strs {h : Heap} : ∀ {vs : List Value} {ns : List Str}, StrsAre vs ns → ReadsAll h vs (ns.map PyData.str) []
  | _, _, .nil => .nil
  | _, _, .cons k t r => by
    have := ReadsAll.cons (Reads.str (h := h) k t) (readsAll_of_strs (h := h) r)
    simpa using this
theorem reads_of_strs {h : Heap} {a : Addr} {vs : List Value} {ns : List Str} (hl : h.IsList a vs.toArray) (hi : StrsAre vs ns) : Reads h (.ref a) (.list (ns.map PyData.str)) [a] := by
  obtain ⟨o, ho, hc, n, hd⟩ := hl
  exact Reads.list ho hc hd (by simpa using readsAll_of_strs hi)
noncomputable def OkS (ns : List Str) : Prop := ∀ x ∈ ns, PyData.strOk x = true
theorem canLayAll0_strs : ∀ ns : List Str, OkS ns → PyData.canLayAll0 (ns.map PyData.str) = true
  | [], _ => by simp [PyData.canLayAll0]
  | n :: r, h => by simp [PyData.canLayAll0, PyData.canLay0, canLayAll0_strs r (fun x hx => h x (.tail _ hx)), h n (.head _)]
theorem depthAll_strs : ∀ ns : List Str, PyData.depthAll (ns.map PyData.str) ≤ 1
  | [] => by simp [PyData.depthAll]
  | n :: r => by
    have := depthAll_strs r
    simp only [List.map_cons, PyData.depthAll, PyData.depth]
    walk_at "o"
theorem shaped_strs (ns : List Str) (ho : OkS ns) : SeqAt.shaped (.list (ns.map PyData.str)) = true := by
  have h1 := depthAll_strs ns
  have h2 : PyData.depth (.list (ns.map PyData.str)) ≤ 64 := by simp only [PyData.depth]; walk_at "o"
  show (PyData.canLay0 (.list (ns.map PyData.str)) && decide (PyData.depth (.list (ns.map PyData.str)) ≤ 64)) = true
  rw [Bool.and_eq_true]
  exact ⟨by simp only [PyData.canLay0]; exact canLayAll0_strs ns ho, decide_eq_true h2⟩
theorem noMix_strs : ∀ ns ms : List Str, SeqAt.noMixAll (ns.map PyData.str) (ms.map PyData.str) = true
  | [], [] => by simp [SeqAt.noMixAll]
  | [], _ :: _ => by simp [SeqAt.noMixAll]
  | _ :: _, [] => by simp [SeqAt.noMixAll]
  | _ :: r, _ :: q => by simp [SeqAt.noMixAll, SeqAt.noMix, noMix_strs r q]
theorem same_strs : ∀ ns ms : List Str, PySem.Spec.sameAll (ns.map PyData.str) (ms.map PyData.str) = decide (ns = ms)
  | [], [] => by simp [PySem.Spec.sameAll]
  | [], _ :: _ => by simp [PySem.Spec.sameAll]
  | _ :: _, [] => by simp [PySem.Spec.sameAll]
  | n :: r, k :: q => by
    simp only [List.map_cons, PySem.Spec.sameAll, PySem.Spec.same, same_strs r q]
    by_cases h : n = k <;> simp [h]
theorem eq_strs {a b : Addr} {vs us : List Value} {ns ms : List Str} {Q : Value → Shared → Prop} (hl : s.heap.IsList a vs.toArray) (hi : StrsAre vs ns) (hl' : s.heap.IsList b us.toArray) (hi' : StrsAre us ms) (ho : OkS ns) (ho' : OkS ms) (hu : A.units + 64 < cLine)
    (h : Q (.bool (decide (ns = ms))) s) : wpAny (model prog w) A (compareOp .Eq (.ref a) (.ref b)) Q E s :=
  eq_dataH_same (reads_of_strs hl hi) (reads_of_strs hl' hi') (shaped_strs ns ho) (shaped_strs ms ho') hu (by simp only [SeqAt.noMix]; exact noMix_strs ns ms) (by simp only [PySem.Spec.same]; rw [same_strs]; exact h)
/-- an item of a list of texts -/
theorem item_strs {l : Addr} {vs : List Value} {ys : List Str} {i : Nat} {u : Tok} {value slice : Expr} {Q : Value → Shared → Prop} (hl : s.heap.IsList l vs.toArray) (hw : StrsAre vs ys) (hi : i < ys.length) (hs100 : ys.length ≤ 10000) (h : ∀ t', Q (.str (ys.getD i Str.empty) t') s)
    (hs : subscripted slice false (.ref l) (.int (i : Int) u) = operate [.ref l, .int (i : Int) u] (getItem (.ref l) (.int (i : Int) u)) := by with_unfolding_all rfl) :
    wpAny (model prog w) A (subscriptTail value slice (.ref l) (.int (i : Int) u)) Q E s := by
  obtain ⟨t', e⟩ := hw.get i (ys.getD i Str.empty) (by rw [List.getD_eq_getElem?_getD, List.getElem?_eq_getElem hi]; rfl)
  have hz : (2 : Int) ^ 63 = 9223372036854775808 := by decide
  exact tail_any hl.typeIs slot_list_getitem.lookup (wpAny_getItem_list hl (Int.natCast_nonneg i) (by rw [hz]; walk_at "o") (x := .str _ t') (by simpa using e) (h t')) hs
noncomputable def ltS (x y : Str) : Bool := decide (x.cps.toList < y.cps.toList)
noncomputable def maxS (os : List Str) : Str := os.getD (argBest (fun i j => ltS (os.getD j Str.empty) (os.getD i Str.empty)) (os.length - 1)) Str.empty
theorem argBest_le (bt : Nat → Nat → Bool) : ∀ k, argBest bt k ≤ k
  | 0 => Nat.le_refl _
  | k + 1 => by
    have := argBest_le bt k
    simp only [argBest]
    split <;> walk_at "o"
theorem max_strs {l : Addr} {vs : List Value} {ys : List Str} {Q : Value → Shared → Prop} (hh : A.handled = none) (F : Fr h₀ L s.heap m) (N : News h₀ L s.heap news)
    (hl : s.heap.IsList l vs.toArray) (hi : StrsAre vs ys) (hne : 0 < ys.length)
    (h : ∀ h' (t : Tok) tk, Fr h₀ L h' m → News h₀ L h' news → Q (.str (maxS ys) t) { s with heap := h', toks := tk }) :
    wpAny (model prog w) A (call (.builtin "max") [.ref l]) Q E s := by
  obtain ⟨o, ho, _⟩ := id hl
  have hlt := Heap.lt_size ho
  refine call_max_walk ?_
  refine wpAny_pyIter_list hl ?_
  have W := Walks.list (prog := prog) (w := w) (A := A.in1) hh s.heap.objs.size l (Nat.ne_of_lt hlt) vs.toArray
  rw [show vs.toArray.size = ys.length from hi.length] at W
  refine ⟨_, _, _, ys.length, _, _, fun i j => ltS (ys.getD j Str.empty) (ys.getD i Str.empty), rfl, W, ⟨⟨_, Heap.get?_push_size _ rfl, rfl, rfl⟩, hl.at fun o e => Heap.get?_push_of_some _ e⟩, ?_, hne, ?_, ?_⟩
  · intro b hb
    refine Nat.lt_of_lt_of_eq ?_ (Heap.size_push ..).symm
    rcases List.mem_cons.mp hb with rfl | hb
    · exact Nat.lt_succ_self _
    · rw [List.mem_singleton.mp hb]; exact Nat.lt_succ_of_lt hlt
  · intro i j vi vj s' Q' E' hvi hvj hq
    have at' : ∀ {i : Nat} {v : Value}, vs.toArray[i]? = some v → ∃ t, v = .str (ys.getD i Str.empty) t := by
      intro i v e
      have e1 : vs[i]? = some v := by simpa using e
      have hlt : i < ys.length := by
        rw [← hi.length]
        exact (List.getElem?_eq_some_iff.mp e1).1
      obtain ⟨t', e2⟩ := hi.get i (ys.getD i Str.empty) (by rw [List.getD_eq_getElem?_getD, List.getElem?_eq_getElem hlt]; rfl)
      exact ⟨t', Option.some.inj (e1.symm.trans e2)⟩
    obtain ⟨t1, rfl⟩ := at' hvi
    obtain ⟨t2, rfl⟩ := at' hvj
    have := P.gt_str (prog := prog) (w := w) (A := A.in1) (E := E') (s := s') (x := ys.getD i Str.empty) (y := ys.getD j Str.empty) (t := t1) (u := t2) (Q := Q') hq
    exact this
  · intro v h' tk hP hk
    have e1 : vs[argBest (fun i j => ltS (ys.getD j Str.empty) (ys.getD i Str.empty)) (ys.length - 1)]? = some v := by simpa using hP
    have hlt2 := argBest_le (fun i j => ltS (ys.getD j Str.empty) (ys.getD i Str.empty)) (ys.length - 1)
    have hlt3 : argBest (fun i j => ltS (ys.getD j Str.empty) (ys.getD i Str.empty)) (ys.length - 1) < ys.length := by walk_at "o"
    obtain ⟨t', e2⟩ := hi.get _ (maxS ys) (by unfold maxS; rw [List.getD_eq_getElem?_getD, List.getElem?_eq_getElem hlt3]; rfl)
    obtain rfl := Option.some.inj (e1.symm.trans e2)
    have hk2 : ∀ b o, s.heap.get? b = some o → h'.get? b = some o := fun b o e => hk b o (by simpa using Nat.ne_of_lt (Heap.lt_size e)) (Heap.get?_push_of_some _ e)
    exact h h' t' tk (F.grownK hk2) (N.grown hk2)
end
theorem strsTake {vs : List Value} {ys : List Str} (k : Nat) (h : StrsAre vs ys) : StrsAre (vs.take k) (ys.take k) := by
  induction h generalizing k with
  | nil => simpa using StrsAre.nil
  | cons y t _ ih => cases k with
    | zero => exact .nil
    | succ k => exact .cons y t (ih k)
theorem strsDrop {vs : List Value} {ys : List Str} (k : Nat) (h : StrsAre vs ys) : StrsAre (vs.drop k) (ys.drop k) := by
  induction h generalizing k with
  | nil => simpa using StrsAre.nil
  | cons y t h ih => cases k with
    | zero => exact .cons y t h
    | succ k => exact ih k
theorem okS_nil : OkS [] := fun _ h => nomatch h
theorem sorted_own {prog : Program} {w : World} {A : Around} {E : Value → Shared → Prop} {s : Shared} {h₀ : Heap} {L : Addr} {m : Str → Option Value} {news : List (Addr × Obj)} {l : Addr} {vs : List Value} {ss : List Str} {Q : Value → Shared → Prop}
    (F : Fr h₀ L s.heap m) (N : News h₀ L s.heap news) (hl : s.heap.IsList l vs.toArray) (hS : StrsAre vs ss) (h64 : ss.length < 64)
    (h : ∀ (D : Addr) (vs' : List Value) (ss' : List Str) (e : Nat) (h' : Heap), Fr h₀ L h' m → News h₀ L h' ((D, listOf vs'.toArray e) :: news) → (∀ p ∈ news, p.1 < D) →
      StrsAre vs' ss' → ss'.Perm ss → sortedS ss' = true → Q (.ref D) { s with heap := h' }) :
    wpAny (model prog w) A (call (.builtin "sorted") [.ref l]) Q E s :=
  sorted_N_str F N hl hS (by rw [hS.length]; exact h64) fun h' vs' ss' e F' N' a b c => h _ vs' ss' e h' F' N' (fun p hp => Nat.lt_succ_of_lt (Heap.lt_size (N p hp).1)) a b c
end
section
section
variable {prog : Program} {w : World} {A : Around} {E : Value → Shared → Prop} {s : Shared} {env : Env} {h₀ : Heap} {x : Str} {body : List Stmt} {Q : Flow → Shared → Prop}
/-- a for over a range of the ledger, from 0; the ledger keeps its addresses -/
theorem for_range {l : Addr} {n : Nat} {t u v : Tok} {m₀ : Str → Option Value} {news : List (Addr × Obj)} (J : Nat → (Str → Option Value) → List (Addr × Obj) → Prop)
    (hh : A.handled = none) (F : Fr h₀ env.locals s.heap m₀) (N : News h₀ env.locals s.heap news) (hl : (l, rangeOf 0 (n : Int) 1 t u v) ∈ news) (hn : n < 100)
    (hJ : ∀ i m nx, J i m nx → nx.map (·.1) = news.map (·.1)) (hj : J 0 m₀ news)
    (turn : ∀ i t m₁ nx h tk I o, i < n → (∀ q ∈ nx, q.1 < I) → J i m₁ nx →
      Fr h₀ env.locals h (fun y => if y = x then some (.int (i : Int) t) else m₁ y) → News h₀ env.locals h ((I, o) :: nx) →
      wpAny (model prog w) A (execs body env) (InvPostN h₀ env.locals (J (i + 1)) [(I, o)] (news.map (·.1)) { s with heap := h, toks := tk } Q) E { s with heap := h, toks := tk })
    (done : ∀ m₁ nx h tk, J n m₁ nx → Fr h₀ env.locals h m₁ → News h₀ env.locals h nx → Q .next { s with heap := h, toks := tk }) :
    wpAny (model prog w) A (pyIter (.ref l)) (fun it s₂ => LoopAtV prog w A h₀ env x body Q E it s₂) E s := by
  have hsm : Builtin.Range.small 0 (n : Int) 1 = true := by
    have key : ∀ c < 100, Builtin.Range.small 0 ((c : Nat) : Int) 1 = true := by decide +kernel
    exact key n hn
  have hrs : Builtin.Range.rangeSize 0 (n : Int) 1 = n := by rw [rangeSize_nat]; simp
  refine wpAny_pyIter_range (N _ hl).1 hsm ?_
  have W := Walks.range (prog := prog) (w := w) hh s.heap.objs.size 0 1 n
  have hL : env.locals < s.heap.objs.size := F.ns.lt
  have hI0 : h₀.get? s.heap.objs.size = none := next_is_new F
  have low : ∀ nx : List (Addr × Obj), nx.map (·.1) = news.map (·.1) → ∀ q ∈ nx, q.1 < s.heap.objs.size := by
    intro nx e q hq
    have h1 : q.1 ∈ nx.map (·.1) := List.mem_map.mpr ⟨q, hq, rfl⟩
    rw [e] at h1
    obtain ⟨q', h2, h3⟩ := List.mem_map.mp h1
    rw [← h3]; exact Heap.lt_size (N q' h2).1
  refine ⟨_, _, _, n, _, _, m₀, news, J, rfl, W, ?_, ?_, ?_, ?_, F.push _, (fun p hp => ⟨Heap.get?_push_of_some _ (N p hp).1, (N p hp).2⟩), hj, ?_, ?_⟩
  · simp only [List.mem_cons, List.not_mem_nil, or_false]
    exact Nat.ne_of_lt hL
  · intro b hb
    rw [List.mem_singleton.mp hb]
    exact hI0
  · intro p hp hI
    exact absurd (low news rfl p hp) ((List.mem_singleton.mp hI) ▸ Nat.lt_irrefl _)
  · show Heap.get? (Heap.push _ _) _ = _
    rw [Heap.get?_push_size _ rfl, hrs]
    simp
  · rintro i v m₁ nx s₁ own ⟨h, tk, rfl⟩ hin hP hJi hoff hown hget hfp hSt F₁ N₁
    have hadr := hJ _ _ _ hJi
    have hoI : h.get? s.heap.objs.size = _ := hSt
    have hIo := hfp _ (.head _) hI0 _ hoI
    obtain ⟨t', rfl⟩ : ∃ t', v = .int (i : Int) t' := by
      obtain ⟨t', e⟩ := hP
      exact ⟨t', by rw [e]; simp⟩
    have N₂ : News h₀ env.locals h ((s.heap.objs.size, _) :: nx) := fun p hp => N₁ p <| (List.mem_cons.mp hp).elim
      (fun q => List.mem_append.mpr (.inl (q ▸ hIo))) fun q => List.mem_append.mpr (.inr q)
    refine wpAny_mono (turn i t' m₁ nx h tk _ _ hin (low nx hadr) hJi F₁ N₂) (fun f s₂ p => ?_) fun _ _ e => e
    have fin : InvEndN h₀ env.locals (J (i + 1)) [(s.heap.objs.size, ritOf (0 + ((i + 1 : Nat) : Int) * 1) ((n : Int) - ((i + 1 : Nat) : Int)) 1)] (news.map (·.1)) { s with heap := h, toks := tk } s₂ →
        LoopStepU h₀ env.locals [s.heap.objs.size] own (J (i + 1)) { s with heap := h, toks := tk } .next s₂ := by
      rintro ⟨h', tk', m', news', nx', e, F', N', hn, ho, ha, hm⟩
      have hadr' := hJ _ _ _ hm
      refine ⟨rfl, h', tk', m', nx', e, F', fun p hp => ?_, fun p hp => ?_, hm⟩
      · rcases List.mem_append.mp hp with q | q
        · have hpo : s₂.heap.get? p.1 = some p.2 ∧ p.1 ≠ env.locals ∧ h₀.get? p.1 = none := by
            rw [e]
            have e1 := List.mem_singleton.mp (hown p q)
            have h2 := hget p q
            dsimp only at h2
            have : p = (s.heap.objs.size, ritOf (0 + ((i + 1 : Nat) : Int) * 1) ((n : Int) - ((i + 1 : Nat) : Int)) 1) := by
              refine Prod.ext e1 ?_
              rw [e1] at h2
              exact Option.some.inj (h2.symm.trans hoI)
            rw [this]
            exact N' _ (ho _ (.head _))
          rw [e] at hpo
          exact hpo
        · exact N' p (hn p q)
      · intro hw
        have := low nx' hadr' p hp
        rw [List.mem_singleton.mp hw] at this
        exact Nat.lt_irrefl _ this
    cases f with
    | ret v => exact .ret p
    | brk => exact .brk p
    | next => exact .next (fin p)
    | cont => exact .cont (fin p)
  · rintro h' tk m' nx F' N' _ hJn
    exact done m' nx h' tk hJn F' N'
end
end
section
local macro_rules | `(tactic| k_mem) => `(tactic| walk_at "mem")
noncomputable def lackKeep (ss os : List Str) (k : Nat) : Bool :=
  !(os.any (· == ss.getD k Str.empty)) && (!((ss.take k).any (· == ss.getD k Str.empty)) || decide (os = []) || ltS (maxS os) (ss.getD k Str.empty))
noncomputable def lackTo (ss os : List Str) (i : Nat) : List Str := ((List.range i).filter (lackKeep ss os)).map fun k => ss.getD k Str.empty
theorem lackTo_len (ss os : List Str) (i : Nat) : (lackTo ss os i).length ≤ i := by
  unfold lackTo
  rw [List.length_map]
  refine Nat.le_trans (List.length_filter_le _ _) (by rw [List.length_range]; exact Nat.le_refl _)
theorem lackTo_succ (ss os : List Str) (i : Nat) : lackTo ss os (i + 1) = lackTo ss os i ++ (if lackKeep ss os i = true then [ss.getD i Str.empty] else []) := by
  unfold lackTo
  rw [List.range_succ, List.filter_append, List.map_append]
  by_cases c : lackKeep ss os i = true
  · rw [if_pos c]; simp [c]
  · rw [if_neg c]; simp [c]
inductive LJ (v1 : List Value) (ss os : List Str) (rg rw l1 l2 : Addr) (t1 u1 v1' : Tok) (news : List (Addr × Obj)) (i : Nat) (m : Str → Option Value) (nx : List (Addr × Obj)) : Prop
  | mk (rws : List Value) (nr : Nat) (h1 : nx = (rg, rangeOf 0 (v1.length : Int) 1 t1 u1 v1') :: (rw, listOf (List.toArray rws) nr) :: news) (h2 : StrsAre rws (lackTo ss os i)) (h3 : m (Str.ofString "row") = some (.ref rw)) (h4 : m (Str.ofString "one") = some (.ref l1)) (h5 : m (Str.ofString "other") = some (.ref l2)) : LJ v1 ss os rg rw l1 l2 t1 u1 v1' news i m nx
theorem c_lacking {w : World} {p : Program} {loose : List Str} {mean : ExcName → Option Value} {mg mb : Str → Option Value}
  (dp un : Nat) (gd : Option (List Code)) (cn : Str) (cs : Scope) (a : Addr) (ccd : Value) (cl : List (Str × Addr)) (outer : List Env) (A₀ : Around) (base h₀ : Heap) (L : Addr) (m : Str → Option Value) (news : List (Addr × Obj)) (s : Shared)
    (Q E : Value → Shared → Prop)
    (B : Below A₀ base outer h₀) (F : Fr h₀ L s.heap m) (KX : (hd.heap_1 w.params).In h₀) (T : Top p loose mean mg mb h₀) (hk : cs.kind = .function) (hdp : dp + 20 < recursionLimit) (hu : un + 180 < cLine)
    (N : News h₀ L s.heap news) (l1 l2 : Addr) (v1 v2 : List Value) (n1 n2 : Nat) (ss os : List Str) (hl1 : (l1, listOf v1.toArray n1) ∈ news) (hl2 : (l2, listOf v2.toArray n2) ∈ news) (hs1 : StrsAre v1 ss) (hs2 : StrsAre v2 os) (hz1 : ss.length < 60) (hz2 : os.length < 60) (ho1 : OkS ss) (ho2 : OkS os)
    (hret : ∀ (D : Addr) ws n zs h' tk', Fr h₀ L h' m → News h₀ L h' ((D, listOf (List.toArray ws) n) :: news) → StrsAre ws zs → zs.Perm (lackTo ss os ss.length) → sortedS zs = true → (∀ p ∈ news, p.1 < D) → Q (.ref D) { s with heap := h', toks := tk' }) :
    wpAny (model Challenge.rw_il0109_01.row.prog w) (ktrTop dp un gd cn cs L a ccd cl outer) (call (.ref 110) [.ref l1, .ref l2]) Q E s := by
  refine wpAny_call ?_
  revert KX; k_fill; intro KX
  have hvl1 := hs1.length
  have hvl2 := hs2.length
  k_dflt ktr_enter
  (repeat' first | (((with_reducible show wpAny _ _ (call (Value.builtin _) [Value.ref _]) _ _ _); k_dflt (refine' Mine.sorted_own (by k_asm) (by k_asm) (by first | ((exact News.isList (by k_asm) (by walk_at "mem")); done) | fail) (by first | (((first | assumption | exact StrsAre.nil | exact Mine.strsTake _ (by assumption) | exact Mine.strsDrop _ (by assumption))); done) | fail) (by walk_at "o") ?_); intro _ _ _ _ _ _ _ l1 _ _ _; (try k_lt l1)); (try (revert l1; intro _))) | ((with_reducible show wpAny _ _ (call (Value.builtin _) [Value.ref _]) _ _ _); k_dflt (refine' Mine.max_strs (by with_unfolding_all rfl) (by k_asm) (by k_asm) (by first | ((exact News.isList (by k_asm) (by walk_at "mem")); done) | fail) (by first | (((first | assumption | exact StrsAre.nil | exact Mine.strsTake _ (by assumption) | exact Mine.strsDrop _ (by assumption))); done) | fail) (by first | ((exact List.length_pos_iff.mpr (of_decide_eq_false (by assumption))); done) | fail) ?_); intro _ _ _ _ _) | ((with_reducible show wpAny _ _ (compareOp CmpOp.Eq (Value.ref _) (Value.ref _)) _ _ _); k_dflt (refine' Mine.eq_strs (by first | ((exact News.isList (by k_asm) (by walk_at "mem")); done) | fail) (by first | (((first | assumption | exact StrsAre.nil | exact Mine.strsTake _ (by assumption) | exact Mine.strsDrop _ (by assumption))); done) | fail) (by first | ((exact News.isList (by k_asm) (by walk_at "mem")); done) | fail) (by first | (((first | assumption | exact StrsAre.nil | exact Mine.strsTake _ (by assumption) | exact Mine.strsDrop _ (by assumption))); done) | fail) (by first | ((first | assumption | exact Mine.okS_nil); done) | fail) (by first | ((first | assumption | exact Mine.okS_nil); done) | fail) (by first | ((ktr_units); done) | fail) ?_)) | ((with_reducible show wpAny _ _ (compareOp CmpOp.NotIn (Value.str _ _) (Value.ref _)) _ _ _); k_dflt (refine' notin_list_strs (by first | ((exact News.isList (by k_asm) (by walk_at "mem")); done) | fail) (by first | (((first | assumption | exact StrsAre.nil | exact Mine.strsTake _ (by assumption) | exact Mine.strsDrop _ (by assumption))); done) | fail) ?_)) | ((with_reducible show wpAny _ _ (subscriptTail _ _ (Value.ref _) (Value.int _ _)) _ _ _); k_dflt (refine' Mine.item_strs (by first | ((exact News.isList (by k_asm) (by walk_at "mem")); done) | fail) (by assumption) (by walk_at "o") (by walk_at "o") ?_); intro _) | (((with_reducible show wpAny _ _ (call (Value.type "range") [Value.int _ _]) _ _ _); k_dflt (refine' Mine.range1_own (by k_asm) (by k_asm) ?_); intro _ _ _ _ _ _ _ _ l1; (try k_lt l1)); (try (revert l1; intro _))) | ((with_reducible show wpAny _ _ (call (Value.builtin "len") [Value.ref _]) _ _ _); k_dflt (refine' len_list (by first | ((exact News.isList (by k_asm) (by walk_at "mem")); done) | fail) (by first | ((walk_at "len"); done) | fail) ?_); (try simp only [List.size_toArray])) | (((with_reducible show wpAny _ _ (subscriptTail _ (PySem.Expr.Slice _ _ none _) (Value.ref _) (Value.ref _)) _ _ _); (rename Fr _ _ _ _ => hF'); (rename News _ _ _ _ => hN'); k_dflt (refine' Mine.slice_at hF' hN' (by first | ((walk_at "mem"); done) | fail) (by first | ((kmk_part); done) | fail) (by first | ((kmk_part); done) | fail) (by first | ((walk_at "pick"); done) | fail) ?_ (by with_unfolding_all rfl) (by first | ((kmk_pure); done) | fail) (by first | ((walk_at "len"); done) | fail)); clear hF' hN'; intro _ _ _ _ l1; (try k_lt l1)); (try (revert l1; intro _))) | ((with_reducible show wpAny _ _ (call (Value.builtin _) [Value.ref _, _]) _ _ _); (rename Fr _ _ _ _ => hF'); (rename News _ _ _ _ => hN'); (refine Mine.append_list hF' hN' (by k_upd) ?_ (by walk_at "len")); clear hF' hN'; intro _ _ _) | walk_at "g")
  refine For_invVF (by assumption) rfl rfl ?_
  (repeat' first | (((with_reducible show wpAny _ _ (call (Value.builtin _) [Value.ref _]) _ _ _); k_dflt (refine' Mine.sorted_own (by k_asm) (by k_asm) (by first | ((exact News.isList (by k_asm) (by walk_at "mem")); done) | fail) (by first | (((first | assumption | exact StrsAre.nil | exact Mine.strsTake _ (by assumption) | exact Mine.strsDrop _ (by assumption))); done) | fail) (by walk_at "o") ?_); intro _ _ _ _ _ _ _ l1 _ _ _; (try k_lt l1)); (try (revert l1; intro _))) | ((with_reducible show wpAny _ _ (call (Value.builtin _) [Value.ref _]) _ _ _); k_dflt (refine' Mine.max_strs (by with_unfolding_all rfl) (by k_asm) (by k_asm) (by first | ((exact News.isList (by k_asm) (by walk_at "mem")); done) | fail) (by first | (((first | assumption | exact StrsAre.nil | exact Mine.strsTake _ (by assumption) | exact Mine.strsDrop _ (by assumption))); done) | fail) (by first | ((exact List.length_pos_iff.mpr (of_decide_eq_false (by assumption))); done) | fail) ?_); intro _ _ _ _ _) | ((with_reducible show wpAny _ _ (compareOp CmpOp.Eq (Value.ref _) (Value.ref _)) _ _ _); k_dflt (refine' Mine.eq_strs (by first | ((exact News.isList (by k_asm) (by walk_at "mem")); done) | fail) (by first | (((first | assumption | exact StrsAre.nil | exact Mine.strsTake _ (by assumption) | exact Mine.strsDrop _ (by assumption))); done) | fail) (by first | ((exact News.isList (by k_asm) (by walk_at "mem")); done) | fail) (by first | (((first | assumption | exact StrsAre.nil | exact Mine.strsTake _ (by assumption) | exact Mine.strsDrop _ (by assumption))); done) | fail) (by first | ((first | assumption | exact Mine.okS_nil); done) | fail) (by first | ((first | assumption | exact Mine.okS_nil); done) | fail) (by first | ((ktr_units); done) | fail) ?_)) | ((with_reducible show wpAny _ _ (compareOp CmpOp.NotIn (Value.str _ _) (Value.ref _)) _ _ _); k_dflt (refine' notin_list_strs (by first | ((exact News.isList (by k_asm) (by walk_at "mem")); done) | fail) (by first | (((first | assumption | exact StrsAre.nil | exact Mine.strsTake _ (by assumption) | exact Mine.strsDrop _ (by assumption))); done) | fail) ?_)) | ((with_reducible show wpAny _ _ (subscriptTail _ _ (Value.ref _) (Value.int _ _)) _ _ _); k_dflt (refine' Mine.item_strs (by first | ((exact News.isList (by k_asm) (by walk_at "mem")); done) | fail) (by assumption) (by walk_at "o") (by walk_at "o") ?_); intro _) | (((with_reducible show wpAny _ _ (call (Value.type "range") [Value.int _ _]) _ _ _); k_dflt (refine' Mine.range1_own (by k_asm) (by k_asm) ?_); intro _ _ _ _ _ _ _ _ l1; (try k_lt l1)); (try (revert l1; intro _))) | ((with_reducible show wpAny _ _ (call (Value.builtin "len") [Value.ref _]) _ _ _); k_dflt (refine' len_list (by first | ((exact News.isList (by k_asm) (by walk_at "mem")); done) | fail) (by first | ((walk_at "len"); done) | fail) ?_); (try simp only [List.size_toArray])) | (((with_reducible show wpAny _ _ (subscriptTail _ (PySem.Expr.Slice _ _ none _) (Value.ref _) (Value.ref _)) _ _ _); (rename Fr _ _ _ _ => hF'); (rename News _ _ _ _ => hN'); k_dflt (refine' Mine.slice_at hF' hN' (by first | ((walk_at "mem"); done) | fail) (by first | ((kmk_part); done) | fail) (by first | ((kmk_part); done) | fail) (by first | ((walk_at "pick"); done) | fail) ?_ (by with_unfolding_all rfl) (by first | ((kmk_pure); done) | fail) (by first | ((walk_at "len"); done) | fail)); clear hF' hN'; intro _ _ _ _ l1; (try k_lt l1)); (try (revert l1; intro _))) | ((with_reducible show wpAny _ _ (call (Value.builtin _) [Value.ref _, _]) _ _ _); (rename Fr _ _ _ _ => hF'); (rename News _ _ _ _ => hN'); (refine Mine.append_list hF' hN' (by k_upd) ?_ (by walk_at "len")); clear hF' hN'; intro _ _ _) | walk_at "g")
  rename Fr _ _ _ _ => F2
  rename News _ _ _ _ => N2
  rename_i g2 L2 _ _ B2 X2 T2 _ rw _ lrw _ _ _ rg hh tkk t1 u1 v1' la
  refine for_range (n := v1.length) (LJ v1 ss os rg rw l1 l2 t1 u1 v1' news) rfl F2 N2 (.head _) (by walk_at "o") ?_ ?_ ?_ ?_
  · rintro i m nx ⟨rws, nr, rfl, _⟩
    rfl
  · exact ⟨[], 0, rfl, .nil, (by with_unfolding_all rfl), (by with_unfolding_all rfl), (by with_unfolding_all rfl)⟩
  · rintro i t m₁ nx h tk I o hi hlt ⟨rws, nr, rfl, hw, hm1, hm2, hm3⟩ F3 N3
    clear F2 N2
    k_lt hlt
    rw [mset hm1, mset hm2, mset hm3] at F3
    have hz : rws.length ≤ i := by
      rw [hw.length]
      exact lackTo_len ss os i
    (repeat' first | (((with_reducible show wpAny _ _ (call (Value.builtin _) [Value.ref _]) _ _ _); k_dflt (refine' Mine.sorted_own (by k_asm) (by k_asm) (by first | ((exact News.isList (by k_asm) (by walk_at "mem")); done) | fail) (by first | (((first | assumption | exact StrsAre.nil | exact Mine.strsTake _ (by assumption) | exact Mine.strsDrop _ (by assumption))); done) | fail) (by walk_at "o") ?_); intro _ _ _ _ _ _ _ l1 _ _ _; (try k_lt l1)); (try (revert l1; intro _))) | ((with_reducible show wpAny _ _ (call (Value.builtin _) [Value.ref _]) _ _ _); k_dflt (refine' Mine.max_strs (by with_unfolding_all rfl) (by k_asm) (by k_asm) (by first | ((exact News.isList (by k_asm) (by walk_at "mem")); done) | fail) (by first | (((first | assumption | exact StrsAre.nil | exact Mine.strsTake _ (by assumption) | exact Mine.strsDrop _ (by assumption))); done) | fail) (by first | ((exact List.length_pos_iff.mpr (of_decide_eq_false (by assumption))); done) | fail) ?_); intro _ _ _ _ _) | ((with_reducible show wpAny _ _ (compareOp CmpOp.Eq (Value.ref _) (Value.ref _)) _ _ _); k_dflt (refine' Mine.eq_strs (by first | ((exact News.isList (by k_asm) (by walk_at "mem")); done) | fail) (by first | (((first | assumption | exact StrsAre.nil | exact Mine.strsTake _ (by assumption) | exact Mine.strsDrop _ (by assumption))); done) | fail) (by first | ((exact News.isList (by k_asm) (by walk_at "mem")); done) | fail) (by first | (((first | assumption | exact StrsAre.nil | exact Mine.strsTake _ (by assumption) | exact Mine.strsDrop _ (by assumption))); done) | fail) (by first | ((first | assumption | exact Mine.okS_nil); done) | fail) (by first | ((first | assumption | exact Mine.okS_nil); done) | fail) (by first | ((ktr_units); done) | fail) ?_)) | ((with_reducible show wpAny _ _ (compareOp CmpOp.NotIn (Value.str _ _) (Value.ref _)) _ _ _); k_dflt (refine' notin_list_strs (by first | ((exact News.isList (by k_asm) (by walk_at "mem")); done) | fail) (by first | (((first | assumption | exact StrsAre.nil | exact Mine.strsTake _ (by assumption) | exact Mine.strsDrop _ (by assumption))); done) | fail) ?_)) | ((with_reducible show wpAny _ _ (subscriptTail _ _ (Value.ref _) (Value.int _ _)) _ _ _); k_dflt (refine' Mine.item_strs (by first | ((exact News.isList (by k_asm) (by walk_at "mem")); done) | fail) (by assumption) (by walk_at "o") (by walk_at "o") ?_); intro _) | (((with_reducible show wpAny _ _ (call (Value.type "range") [Value.int _ _]) _ _ _); k_dflt (refine' Mine.range1_own (by k_asm) (by k_asm) ?_); intro _ _ _ _ _ _ _ _ l1; (try k_lt l1)); (try (revert l1; intro _))) | ((with_reducible show wpAny _ _ (call (Value.builtin "len") [Value.ref _]) _ _ _); k_dflt (refine' len_list (by first | ((exact News.isList (by k_asm) (by walk_at "mem")); done) | fail) (by first | ((walk_at "len"); done) | fail) ?_); (try simp only [List.size_toArray])) | (((with_reducible show wpAny _ _ (subscriptTail _ (PySem.Expr.Slice _ _ none _) (Value.ref _) (Value.ref _)) _ _ _); (rename Fr _ _ _ _ => hF'); (rename News _ _ _ _ => hN'); k_dflt (refine' Mine.slice_at hF' hN' (by first | ((walk_at "mem"); done) | fail) (by first | ((kmk_part); done) | fail) (by first | ((kmk_part); done) | fail) (by first | ((walk_at "pick"); done) | fail) ?_ (by with_unfolding_all rfl) (by first | ((kmk_pure); done) | fail) (by first | ((walk_at "len"); done) | fail)); clear hF' hN'; intro _ _ _ _ l1; (try k_lt l1)); (try (revert l1; intro _))) | ((with_reducible show wpAny _ _ (call (Value.builtin _) [Value.ref _, _]) _ _ _); (rename Fr _ _ _ _ => hF'); (rename News _ _ _ _ => hN'); (refine Mine.append_list hF' hN' (by k_upd) ?_ (by walk_at "len")); clear hF' hN'; intro _ _ _) | walk_at "g")
    all_goals (refine inv_end (by assumption) (by assumption) ?_)
    all_goals first
      | (refine ⟨_, ⟨rws ++ [_], _, rfl, ?_, (by with_unfolding_all rfl), (by with_unfolding_all rfl), (by with_unfolding_all rfl)⟩, (by walk_at "sub"), (by walk_at "sub"), (by exact rfl)⟩
         rw [lackTo_succ, if_pos (by unfold lackKeep ltS; simp only [Int.toNat_natCast] at *; simp only [*, Bool.not_false, Bool.not_true, Bool.true_and, Bool.false_or, Bool.or_true, Bool.true_or, Bool.or_false, decide_true, decide_false])]
         exact hw.append' (.cons _ _ .nil))
      | (refine ⟨_, ⟨rws, _, rfl, ?_, (by with_unfolding_all rfl), (by with_unfolding_all rfl), (by with_unfolding_all rfl)⟩, (by walk_at "sub"), (by walk_at "sub"), (by exact rfl)⟩
         rw [lackTo_succ, if_neg (by unfold lackKeep ltS; simp only [Int.toNat_natCast] at *; simp only [*, Bool.not_false, Bool.not_true, Bool.true_and, Bool.false_or, Bool.or_true, Bool.true_or, Bool.or_false, Bool.false_and, Bool.and_false, decide_true, decide_false, Bool.false_eq_true, not_false_eq_true]), List.append_nil]
         exact hw)
      | trace_state
  · rintro m₁ nx h tk' ⟨rws, nr, rfl, hw, hm1, hm2, hm3⟩ F3 N3
    clear F2 N2
    rw [mset hm1, mset hm2, mset hm3] at F3
    have hz9 := lackTo_len ss os v1.length
    (repeat' first | (((with_reducible show wpAny _ _ (call (Value.builtin _) [Value.ref _]) _ _ _); k_dflt (refine' Mine.sorted_own (by k_asm) (by k_asm) (by first | ((exact News.isList (by k_asm) (by walk_at "mem")); done) | fail) (by first | (((first | assumption | exact StrsAre.nil | exact Mine.strsTake _ (by assumption) | exact Mine.strsDrop _ (by assumption))); done) | fail) (by walk_at "o") ?_); intro _ _ _ _ _ _ _ l1 _ _ _; (try k_lt l1)); (try (revert l1; intro _))) | ((with_reducible show wpAny _ _ (call (Value.builtin _) [Value.ref _]) _ _ _); k_dflt (refine' Mine.max_strs (by with_unfolding_all rfl) (by k_asm) (by k_asm) (by first | ((exact News.isList (by k_asm) (by walk_at "mem")); done) | fail) (by first | (((first | assumption | exact StrsAre.nil | exact Mine.strsTake _ (by assumption) | exact Mine.strsDrop _ (by assumption))); done) | fail) (by first | ((exact List.length_pos_iff.mpr (of_decide_eq_false (by assumption))); done) | fail) ?_); intro _ _ _ _ _) | ((with_reducible show wpAny _ _ (compareOp CmpOp.Eq (Value.ref _) (Value.ref _)) _ _ _); k_dflt (refine' Mine.eq_strs (by first | ((exact News.isList (by k_asm) (by walk_at "mem")); done) | fail) (by first | (((first | assumption | exact StrsAre.nil | exact Mine.strsTake _ (by assumption) | exact Mine.strsDrop _ (by assumption))); done) | fail) (by first | ((exact News.isList (by k_asm) (by walk_at "mem")); done) | fail) (by first | (((first | assumption | exact StrsAre.nil | exact Mine.strsTake _ (by assumption) | exact Mine.strsDrop _ (by assumption))); done) | fail) (by first | ((first | assumption | exact Mine.okS_nil); done) | fail) (by first | ((first | assumption | exact Mine.okS_nil); done) | fail) (by first | ((ktr_units); done) | fail) ?_)) | ((with_reducible show wpAny _ _ (compareOp CmpOp.NotIn (Value.str _ _) (Value.ref _)) _ _ _); k_dflt (refine' notin_list_strs (by first | ((exact News.isList (by k_asm) (by walk_at "mem")); done) | fail) (by first | (((first | assumption | exact StrsAre.nil | exact Mine.strsTake _ (by assumption) | exact Mine.strsDrop _ (by assumption))); done) | fail) ?_)) | ((with_reducible show wpAny _ _ (subscriptTail _ _ (Value.ref _) (Value.int _ _)) _ _ _); k_dflt (refine' Mine.item_strs (by first | ((exact News.isList (by k_asm) (by walk_at "mem")); done) | fail) (by assumption) (by walk_at "o") (by walk_at "o") ?_); intro _) | (((with_reducible show wpAny _ _ (call (Value.type "range") [Value.int _ _]) _ _ _); k_dflt (refine' Mine.range1_own (by k_asm) (by k_asm) ?_); intro _ _ _ _ _ _ _ _ l1; (try k_lt l1)); (try (revert l1; intro _))) | ((with_reducible show wpAny _ _ (call (Value.builtin "len") [Value.ref _]) _ _ _); k_dflt (refine' len_list (by first | ((exact News.isList (by k_asm) (by walk_at "mem")); done) | fail) (by first | ((walk_at "len"); done) | fail) ?_); (try simp only [List.size_toArray])) | (((with_reducible show wpAny _ _ (subscriptTail _ (PySem.Expr.Slice _ _ none _) (Value.ref _) (Value.ref _)) _ _ _); (rename Fr _ _ _ _ => hF'); (rename News _ _ _ _ => hN'); k_dflt (refine' Mine.slice_at hF' hN' (by first | ((walk_at "mem"); done) | fail) (by first | ((kmk_part); done) | fail) (by first | ((kmk_part); done) | fail) (by first | ((walk_at "pick"); done) | fail) ?_ (by with_unfolding_all rfl) (by first | ((kmk_pure); done) | fail) (by first | ((walk_at "len"); done) | fail)); clear hF' hN'; intro _ _ _ _ l1; (try k_lt l1)); (try (revert l1; intro _))) | ((with_reducible show wpAny _ _ (call (Value.builtin _) [Value.ref _, _]) _ _ _); (rename Fr _ _ _ _ => hF'); (rename News _ _ _ _ => hN'); (refine Mine.append_list hF' hN' (by k_upd) ?_ (by walk_at "len")); clear hF' hN'; intro _ _ _) | walk_at "g")
    rename Fr h₀ _ _ _ => kF
    rename News h₀ _ _ _ => kN
    rename StrsAre _ _ => kS
    rename List.Perm _ _ => kP
    rename sortedS _ = true => kO
    rename_i l9 _ _
    rw [hvl1] at kP
    refine hret _ _ _ _ _ _ kF (news_sub kN (by walk_at "sub")) kS kP kO (fun p hp => allLt_mem l9.2.2 p hp)
end
section
local macro_rules | `(tactic| k_mem) => `(tactic| walk_at "mem")
noncomputable def cntS (x : Str) (l : List Str) : Int := countIn (.str x) (l.map PyData.str)
noncomputable def filtTo (p : Nat → Bool) (ss : List Str) (i : Nat) : List Str := ((List.range i).filter p).map fun k => ss.getD k Str.empty
theorem filtTo_len (p : Nat → Bool) (ss : List Str) (i : Nat) : (filtTo p ss i).length ≤ i := by
  unfold filtTo
  rw [List.length_map]
  refine Nat.le_trans (List.length_filter_le _ _) (by rw [List.length_range]; exact Nat.le_refl _)
theorem filtTo_succ (p : Nat → Bool) (ss : List Str) (i : Nat) : filtTo p ss (i + 1) = filtTo p ss i ++ (if p i = true then [ss.getD i Str.empty] else []) := by
  unfold filtTo
  rw [List.range_succ, List.filter_append, List.map_append]
  by_cases c : p i = true
  · rw [if_pos c]; simp [c]
  · rw [if_neg c]; simp [c]
noncomputable def missKeep (ss os : List Str) (k : Nat) : Bool := decide (cntS (ss.getD k Str.empty) os < cntS (ss.getD k Str.empty) (ss.drop k))
noncomputable def leftKeep (ss os : List Str) (k : Nat) : Bool := decide (cntS (os.getD k Str.empty) ss < cntS (os.getD k Str.empty) (os.take (k + 1)))
theorem strsRev {vs : List Value} {ys : List Str} (h : StrsAre vs ys) : StrsAre vs.reverse ys.reverse := by
  induction h with
  | nil => exact .nil
  | cons y t _ ih =>
    rw [List.reverse_cons, List.reverse_cons]
    exact ih.append' (.cons y t .nil)
theorem srcRange {prog : Program} {w : World} {A : Around} {s₁ : Shared} {h₀ : Heap} {L : Addr} {m : Str → Option Value} {env : Env} {ct elt : Expr} {x : Str} {scope : Scope} {cl : List (Str × Addr)} {Fin : Shared → List Value → List (Addr × Obj) → Prop} {r : Addr} {t u v : Tok} {n : Nat} {news : List (Addr × Obj)}
    (hh : A.handled = none) (F : Fr h₀ L s₁.heap m) (N : News h₀ L s₁.heap news) (hp : (r, rangeOf 0 (n : Int) 1 t u v) ∈ news) (hn : n < 100)
    (h : ∀ g, LCt.CompRestT prog w A h₀ L m env ct elt x scope cl { s₁ with heap := g } (fun _ => True) (fun i v => ∃ t, v = .int (0 + (i : Int)) t) (Fin { s₁ with heap := g }) n 0 [] news) :
    LCt.CompSrcT prog w A h₀ L m env ct elt x scope cl Fin (.ref r) s₁ := by
  have hsm : Builtin.Range.small 0 (n : Int) 1 = true := by
    have key : ∀ c < 100, Builtin.Range.small 0 ((c : Nat) : Int) 1 = true := by decide +kernel
    exact key n hn
  refine LCt.CompSrcT.range hh F N (N _ hp).1 hsm (n := n) (by rw [rangeSize_nat]; simp) (by rw [sizeLine_eq]; walk_at "o") h
theorem c_told {w : World} {p : Program} {loose : List Str} {mean : ExcName → Option Value} {mg mb : Str → Option Value}
  (dp un : Nat) (gd : Option (List Code)) (cn : Str) (cs : Scope) (a : Addr) (ccd : Value) (cl : List (Str × Addr)) (outer : List Env) (A₀ : Around) (base h₀ : Heap) (L : Addr) (m : Str → Option Value) (news : List (Addr × Obj)) (s : Shared)
    (Q E : Value → Shared → Prop)
    (B : Below A₀ base outer h₀) (F : Fr h₀ L s.heap m) (KX : (hd.heap_1 w.params).In h₀) (T : Top p loose mean mg mb h₀) (hk : cs.kind = .function) (hdp : dp + 30 < recursionLimit) (hu : un + 260 < cLine)
    (N : News h₀ L s.heap news) (l1 l2 : Addr) (v1 v2 : List Value) (n1 n2 : Nat) (ss os : List Str) (hl1 : (l1, listOf v1.toArray n1) ∈ news) (hl2 : (l2, listOf v2.toArray n2) ∈ news) (hs1 : StrsAre v1 ss) (hs2 : StrsAre v2 os) (hz1 : ss.length < 60) (hz2 : os.length < 60) (ho1 : OkS ss) (ho2 : OkS os)
    (hret : ∀ (D T1 T2 a b c d : Addr) va vb vc vd na nb nc nd za zb h' tk', Fr h₀ L h' m →
      News h₀ L h' ((D, listOf [.ref T1, .ref T2].toArray 0) :: (T1, tupOf [.ref a, .ref b]) :: (T2, tupOf [.ref c, .ref d]) :: (a, listOf (List.toArray va) na) :: (b, listOf (List.toArray vb) nb) :: (c, listOf (List.toArray vc) nc) :: (d, listOf (List.toArray vd) nd) :: news) →
      StrsAre va za → za.Perm (lackTo ss os ss.length) → sortedS za = true → StrsAre vb zb → zb.Perm (lackTo os ss os.length) → sortedS zb = true →
      StrsAre vc (filtTo (missKeep ss os) ss ss.length).reverse → StrsAre vd (filtTo (leftKeep ss os) os os.length) → Q (.ref D) { s with heap := h', toks := tk' }) :
    wpAny (model Challenge.rw_il0109_01.row.prog w) (ktrTop dp un gd cn cs L a ccd cl outer) (call (.ref 115) [.ref l1, .ref l2]) Q E s := by
  refine wpAny_call ?_
  revert KX; k_fill; intro KX
  have hvl1 := hs1.length
  have hvl2 := hs2.length
  k_dflt (refine' code_defC (by k_asm) (by k_asm) (by k_asm) (by k_asm) (by k_asm) (by exact rfl) (by exact rfl) (by assumption) (by first | ((k_is); done) | fail) (by first | ((k_is); done) | fail) (by first | ((ktr_room); done) | fail) (by exact BindsTo.of_eq rfl) (by exact rfl) (by first | ((decide +kernel); done) | fail) ?_ (by exact rfl) (by exact rfl) (by exact rfl); k_whole; intro g' L' h' tk' cells' FG' F' N' Y' B' X' T' l99; k_cells Y'; (try simp only [List.cons_append, List.nil_append] at N'); (try dsimp only); (try k_fold))
  (repeat' (
  (fail_if_success (with_reducible show wpAny _ _ (call (Value.ref 110) _) _ _ _));
  (fail_if_success (with_reducible show wpAny _ _ (eval (Expr.ListComp _ _ _ _) _) _ _ _));
  (fail_if_success (with_reducible show wpAny _ _ (exec (Stmt.Assign _ (Expr.ListComp _ _ _ _) _) _) _ _ _));
  (first | (k_unfold; (try dsimp only)) | (k_end; wrow_close) | ((with_reducible show wpAny _ _ (getMethod (Value.ref _) (PySem.Str.ofString "count") _) _ _ _); k_dflt (refine' kf_method (by k_asm) (by first | ((walk_at "mem"); done) | fail) PySem.F.slot_list_count PySem.F.type_list_count ?_)) | ((with_reducible show wpAny _ _ (call (Value.builtin _) [Value.ref _, Value.str _ _]) _ _ _); k_dflt (refine' count_list_strs (by first | ((exact News.isList (by k_asm) (by walk_at "mem")); done) | fail) (by first | (((first | assumption | exact StrsAre.nil | exact Mine.strsTake _ (by assumption) | exact Mine.strsDrop _ (by assumption))); done) | fail) ?_)) | (((with_reducible show wpAny _ _ (call (Value.builtin _) [Value.ref _]) _ _ _); k_dflt (refine' Mine.sorted_own (by k_asm) (by k_asm) (by first | ((exact News.isList (by k_asm) (by walk_at "mem")); done) | fail) (by first | (((first | assumption | exact StrsAre.nil | exact Mine.strsTake _ (by assumption) | exact Mine.strsDrop _ (by assumption))); done) | fail) (by walk_at "o") ?_); intro _ _ _ _ _ _ _ l1 _ _ _; (try k_lt l1)); (try (revert l1; intro _))) | ((with_reducible show wpAny _ _ (call (Value.builtin _) [Value.ref _]) _ _ _); k_dflt (refine' Mine.max_strs (by with_unfolding_all rfl) (by k_asm) (by k_asm) (by first | ((exact News.isList (by k_asm) (by walk_at "mem")); done) | fail) (by first | (((first | assumption | exact StrsAre.nil | exact Mine.strsTake _ (by assumption) | exact Mine.strsDrop _ (by assumption))); done) | fail) (by first | ((exact List.length_pos_iff.mpr (of_decide_eq_false (by assumption))); done) | fail) ?_); intro _ _ _ _ _) | ((with_reducible show wpAny _ _ (compareOp CmpOp.Eq (Value.ref _) (Value.ref _)) _ _ _); k_dflt (refine' Mine.eq_strs (by first | ((exact News.isList (by k_asm) (by walk_at "mem")); done) | fail) (by first | (((first | assumption | exact StrsAre.nil | exact Mine.strsTake _ (by assumption) | exact Mine.strsDrop _ (by assumption))); done) | fail) (by first | ((exact News.isList (by k_asm) (by walk_at "mem")); done) | fail) (by first | (((first | assumption | exact StrsAre.nil | exact Mine.strsTake _ (by assumption) | exact Mine.strsDrop _ (by assumption))); done) | fail) (by first | ((first | assumption | exact Mine.okS_nil); done) | fail) (by first | ((first | assumption | exact Mine.okS_nil); done) | fail) (by first | ((ktr_units); done) | fail) ?_)) | ((with_reducible show wpAny _ _ (compareOp CmpOp.NotIn (Value.str _ _) (Value.ref _)) _ _ _); k_dflt (refine' notin_list_strs (by first | ((exact News.isList (by k_asm) (by walk_at "mem")); done) | fail) (by first | (((first | assumption | exact StrsAre.nil | exact Mine.strsTake _ (by assumption) | exact Mine.strsDrop _ (by assumption))); done) | fail) ?_)) | ((with_reducible show wpAny _ _ (subscriptTail _ _ (Value.ref _) (Value.int _ _)) _ _ _); k_dflt (refine' Mine.item_strs (by first | ((exact News.isList (by k_asm) (by walk_at "mem")); done) | fail) (by assumption) (by walk_at "o") (by walk_at "o") ?_); intro _) | (((with_reducible show wpAny _ _ (call (Value.type "range") [Value.int _ _]) _ _ _); k_dflt (refine' Mine.range1_own (by k_asm) (by k_asm) ?_); intro _ _ _ _ _ _ _ _ l1; (try k_lt l1)); (try (revert l1; intro _))) | ((with_reducible show wpAny _ _ (call (Value.builtin "len") [Value.ref _]) _ _ _); k_dflt (refine' len_list (by first | ((exact News.isList (by k_asm) (by walk_at "mem")); done) | fail) (by first | ((walk_at "len"); done) | fail) ?_); (try simp only [List.size_toArray])) | (((with_reducible show wpAny _ _ (subscriptTail _ (PySem.Expr.Slice _ _ none _) (Value.ref _) (Value.ref _)) _ _ _); (rename Fr _ _ _ _ => hF'); (rename News _ _ _ _ => hN'); k_dflt (refine' Mine.slice_at hF' hN' (by first | ((walk_at "mem"); done) | fail) (by first | ((kmk_part); done) | fail) (by first | ((kmk_part); done) | fail) (by first | ((walk_at "pick"); done) | fail) ?_ (by with_unfolding_all rfl) (by first | ((kmk_pure); done) | fail) (by first | ((walk_at "len"); done) | fail)); clear hF' hN'; intro _ _ _ _ l1; (try k_lt l1)); (try (revert l1; intro _))) | walk1 | (dsimp only; walk1) | (leave1; walk_say "STEP leave1"; try dsimp only))))
  rename Fr _ L' _ _ => F1
  rename News _ L' _ _ => N1
  k_dflt refine LCt.Assign_ListComp_T F1 (by rfl) (by with_unfolding_all rfl) (by with_unfolding_all rfl) (by decide) (by rfl) (by decide) (by rfl) (by rfl) (by rfl) ?_ (by intro _; with_unfolding_all rfl)
  (repeat' (
  (fail_if_success (with_reducible show wpAny _ _ (call (Value.ref 110) _) _ _ _));
  (fail_if_success (with_reducible show wpAny _ _ (eval (Expr.ListComp _ _ _ _) _) _ _ _));
  (fail_if_success (with_reducible show wpAny _ _ (exec (Stmt.Assign _ (Expr.ListComp _ _ _ _) _) _) _ _ _));
  (first | (k_unfold; (try dsimp only)) | (k_end; wrow_close) | ((with_reducible show wpAny _ _ (getMethod (Value.ref _) (PySem.Str.ofString "count") _) _ _ _); k_dflt (refine' kf_method (by k_asm) (by first | ((walk_at "mem"); done) | fail) PySem.F.slot_list_count PySem.F.type_list_count ?_)) | ((with_reducible show wpAny _ _ (call (Value.builtin _) [Value.ref _, Value.str _ _]) _ _ _); k_dflt (refine' count_list_strs (by first | ((exact News.isList (by k_asm) (by walk_at "mem")); done) | fail) (by first | (((first | assumption | exact StrsAre.nil | exact Mine.strsTake _ (by assumption) | exact Mine.strsDrop _ (by assumption))); done) | fail) ?_)) | (((with_reducible show wpAny _ _ (call (Value.builtin _) [Value.ref _]) _ _ _); k_dflt (refine' Mine.sorted_own (by k_asm) (by k_asm) (by first | ((exact News.isList (by k_asm) (by walk_at "mem")); done) | fail) (by first | (((first | assumption | exact StrsAre.nil | exact Mine.strsTake _ (by assumption) | exact Mine.strsDrop _ (by assumption))); done) | fail) (by walk_at "o") ?_); intro _ _ _ _ _ _ _ l1 _ _ _; (try k_lt l1)); (try (revert l1; intro _))) | ((with_reducible show wpAny _ _ (call (Value.builtin _) [Value.ref _]) _ _ _); k_dflt (refine' Mine.max_strs (by with_unfolding_all rfl) (by k_asm) (by k_asm) (by first | ((exact News.isList (by k_asm) (by walk_at "mem")); done) | fail) (by first | (((first | assumption | exact StrsAre.nil | exact Mine.strsTake _ (by assumption) | exact Mine.strsDrop _ (by assumption))); done) | fail) (by first | ((exact List.length_pos_iff.mpr (of_decide_eq_false (by assumption))); done) | fail) ?_); intro _ _ _ _ _) | ((with_reducible show wpAny _ _ (compareOp CmpOp.Eq (Value.ref _) (Value.ref _)) _ _ _); k_dflt (refine' Mine.eq_strs (by first | ((exact News.isList (by k_asm) (by walk_at "mem")); done) | fail) (by first | (((first | assumption | exact StrsAre.nil | exact Mine.strsTake _ (by assumption) | exact Mine.strsDrop _ (by assumption))); done) | fail) (by first | ((exact News.isList (by k_asm) (by walk_at "mem")); done) | fail) (by first | (((first | assumption | exact StrsAre.nil | exact Mine.strsTake _ (by assumption) | exact Mine.strsDrop _ (by assumption))); done) | fail) (by first | ((first | assumption | exact Mine.okS_nil); done) | fail) (by first | ((first | assumption | exact Mine.okS_nil); done) | fail) (by first | ((ktr_units); done) | fail) ?_)) | ((with_reducible show wpAny _ _ (compareOp CmpOp.NotIn (Value.str _ _) (Value.ref _)) _ _ _); k_dflt (refine' notin_list_strs (by first | ((exact News.isList (by k_asm) (by walk_at "mem")); done) | fail) (by first | (((first | assumption | exact StrsAre.nil | exact Mine.strsTake _ (by assumption) | exact Mine.strsDrop _ (by assumption))); done) | fail) ?_)) | ((with_reducible show wpAny _ _ (subscriptTail _ _ (Value.ref _) (Value.int _ _)) _ _ _); k_dflt (refine' Mine.item_strs (by first | ((exact News.isList (by k_asm) (by walk_at "mem")); done) | fail) (by assumption) (by walk_at "o") (by walk_at "o") ?_); intro _) | (((with_reducible show wpAny _ _ (call (Value.type "range") [Value.int _ _]) _ _ _); k_dflt (refine' Mine.range1_own (by k_asm) (by k_asm) ?_); intro _ _ _ _ _ _ _ _ l1; (try k_lt l1)); (try (revert l1; intro _))) | ((with_reducible show wpAny _ _ (call (Value.builtin "len") [Value.ref _]) _ _ _); k_dflt (refine' len_list (by first | ((exact News.isList (by k_asm) (by walk_at "mem")); done) | fail) (by first | ((walk_at "len"); done) | fail) ?_); (try simp only [List.size_toArray])) | (((with_reducible show wpAny _ _ (subscriptTail _ (PySem.Expr.Slice _ _ none _) (Value.ref _) (Value.ref _)) _ _ _); (rename Fr _ _ _ _ => hF'); (rename News _ _ _ _ => hN'); k_dflt (refine' Mine.slice_at hF' hN' (by first | ((walk_at "mem"); done) | fail) (by first | ((kmk_part); done) | fail) (by first | ((kmk_part); done) | fail) (by first | ((walk_at "pick"); done) | fail) ?_ (by with_unfolding_all rfl) (by first | ((kmk_pure); done) | fail) (by first | ((walk_at "len"); done) | fail)); clear hF' hN'; intro _ _ _ _ l1; (try k_lt l1)); (try (revert l1; intro _))) | walk1 | (dsimp only; walk1) | (leave1; walk_say "STEP leave1"; try dsimp only))))
  rename Fr _ L' _ _ => F2
  rename News _ L' _ _ => N2
  refine srcRange (n := v1.length) rfl F2 N2 (.head _) (by walk_at "o") ?_
  intro hg
  refine restT_inv (fun i ys nx => nx = _ ∧ StrsAre ys (filtTo (missKeep ss os) ss i)) ⟨rfl, .nil⟩ ?_ ?_
  · rintro i v ys nx Ic oI C oC D m₂ h5 tk5 E' hi ⟨t5, rfl⟩ ⟨rfl, hys⟩ hC hxv F5 N5 off ne
    rw [Int.zero_add] at hxv
    (repeat' (
  (fail_if_success (with_reducible show wpAny _ _ (call (Value.ref 110) _) _ _ _));
  (fail_if_success (with_reducible show wpAny _ _ (eval (Expr.ListComp _ _ _ _) _) _ _ _));
  (fail_if_success (with_reducible show wpAny _ _ (exec (Stmt.Assign _ (Expr.ListComp _ _ _ _) _) _) _ _ _));
  (first | (k_unfold; (try dsimp only)) | (k_end; wrow_close) | ((with_reducible show wpAny _ _ (getMethod (Value.ref _) (PySem.Str.ofString "count") _) _ _ _); k_dflt (refine' kf_method (by k_asm) (by first | ((walk_at "mem"); done) | fail) PySem.F.slot_list_count PySem.F.type_list_count ?_)) | ((with_reducible show wpAny _ _ (call (Value.builtin _) [Value.ref _, Value.str _ _]) _ _ _); k_dflt (refine' count_list_strs (by first | ((exact News.isList (by k_asm) (by walk_at "mem")); done) | fail) (by first | (((first | assumption | exact StrsAre.nil | exact Mine.strsTake _ (by assumption) | exact Mine.strsDrop _ (by assumption))); done) | fail) ?_)) | (((with_reducible show wpAny _ _ (call (Value.builtin _) [Value.ref _]) _ _ _); k_dflt (refine' Mine.sorted_own (by k_asm) (by k_asm) (by first | ((exact News.isList (by k_asm) (by walk_at "mem")); done) | fail) (by first | (((first | assumption | exact StrsAre.nil | exact Mine.strsTake _ (by assumption) | exact Mine.strsDrop _ (by assumption))); done) | fail) (by walk_at "o") ?_); intro _ _ _ _ _ _ _ l1 _ _ _; (try k_lt l1)); (try (revert l1; intro _))) | ((with_reducible show wpAny _ _ (call (Value.builtin _) [Value.ref _]) _ _ _); k_dflt (refine' Mine.max_strs (by with_unfolding_all rfl) (by k_asm) (by k_asm) (by first | ((exact News.isList (by k_asm) (by walk_at "mem")); done) | fail) (by first | (((first | assumption | exact StrsAre.nil | exact Mine.strsTake _ (by assumption) | exact Mine.strsDrop _ (by assumption))); done) | fail) (by first | ((exact List.length_pos_iff.mpr (of_decide_eq_false (by assumption))); done) | fail) ?_); intro _ _ _ _ _) | ((with_reducible show wpAny _ _ (compareOp CmpOp.Eq (Value.ref _) (Value.ref _)) _ _ _); k_dflt (refine' Mine.eq_strs (by first | ((exact News.isList (by k_asm) (by walk_at "mem")); done) | fail) (by first | (((first | assumption | exact StrsAre.nil | exact Mine.strsTake _ (by assumption) | exact Mine.strsDrop _ (by assumption))); done) | fail) (by first | ((exact News.isList (by k_asm) (by walk_at "mem")); done) | fail) (by first | (((first | assumption | exact StrsAre.nil | exact Mine.strsTake _ (by assumption) | exact Mine.strsDrop _ (by assumption))); done) | fail) (by first | ((first | assumption | exact Mine.okS_nil); done) | fail) (by first | ((first | assumption | exact Mine.okS_nil); done) | fail) (by first | ((ktr_units); done) | fail) ?_)) | ((with_reducible show wpAny _ _ (compareOp CmpOp.NotIn (Value.str _ _) (Value.ref _)) _ _ _); k_dflt (refine' notin_list_strs (by first | ((exact News.isList (by k_asm) (by walk_at "mem")); done) | fail) (by first | (((first | assumption | exact StrsAre.nil | exact Mine.strsTake _ (by assumption) | exact Mine.strsDrop _ (by assumption))); done) | fail) ?_)) | ((with_reducible show wpAny _ _ (subscriptTail _ _ (Value.ref _) (Value.int _ _)) _ _ _); k_dflt (refine' Mine.item_strs (by first | ((exact News.isList (by k_asm) (by walk_at "mem")); done) | fail) (by assumption) (by walk_at "o") (by walk_at "o") ?_); intro _) | (((with_reducible show wpAny _ _ (call (Value.type "range") [Value.int _ _]) _ _ _); k_dflt (refine' Mine.range1_own (by k_asm) (by k_asm) ?_); intro _ _ _ _ _ _ _ _ l1; (try k_lt l1)); (try (revert l1; intro _))) | ((with_reducible show wpAny _ _ (call (Value.builtin "len") [Value.ref _]) _ _ _); k_dflt (refine' len_list (by first | ((exact News.isList (by k_asm) (by walk_at "mem")); done) | fail) (by first | ((walk_at "len"); done) | fail) ?_); (try simp only [List.size_toArray])) | (((with_reducible show wpAny _ _ (subscriptTail _ (PySem.Expr.Slice _ _ none _) (Value.ref _) (Value.ref _)) _ _ _); (rename Fr _ _ _ _ => hF'); (rename News _ _ _ _ => hN'); k_dflt (refine' Mine.slice_at hF' hN' (by first | ((walk_at "mem"); done) | fail) (by first | ((kmk_part); done) | fail) (by first | ((kmk_part); done) | fail) (by first | ((walk_at "pick"); done) | fail) ?_ (by with_unfolding_all rfl) (by first | ((kmk_pure); done) | fail) (by first | ((walk_at "len"); done) | fail)); clear hF' hN'; intro _ _ _ _ l1; (try k_lt l1)); (try (revert l1; intro _))) | walk1 | (dsimp only; walk1) | (leave1; walk_say "STEP leave1"; try dsimp only))))
    · rename (_ < _) => hlt9
      have hk9 : missKeep ss os i = true := decide_eq_true hlt9
      refine LCg.CompEnd.intro (by assumption) (by assumption) _ (fun p hp => .tail _ hp) off trivial ⟨rfl, ?_⟩
      rw [filtTo_succ, if_pos hk9]
      exact hys.append' (.cons _ _ .nil)
    · rename (¬ _ < _) => hlt9
      have hk9 : ¬ (missKeep ss os i = true) := fun e => hlt9 (of_decide_eq_true e)
      refine LCg.CompEnd.intro (by assumption) (by assumption) _ (fun p hp => .tail _ hp) off trivial ⟨rfl, ?_⟩
      rw [filtTo_succ, if_neg hk9, List.append_nil]
      exact hys
  · rintro ys nx ⟨rfl, hys⟩
    intro D h5 tk5 F6 N6 off
    simp only [LCg.Off1] at off
    (repeat' (
  (fail_if_success (with_reducible show wpAny _ _ (call (Value.ref 110) _) _ _ _));
  (fail_if_success (with_reducible show wpAny _ _ (eval (Expr.ListComp _ _ _ _) _) _ _ _));
  (fail_if_success (with_reducible show wpAny _ _ (exec (Stmt.Assign _ (Expr.ListComp _ _ _ _) _) _) _ _ _));
  (first | (k_unfold; (try dsimp only)) | (k_end; wrow_close) | ((with_reducible show wpAny _ _ (getMethod (Value.ref _) (PySem.Str.ofString "count") _) _ _ _); k_dflt (refine' kf_method (by k_asm) (by first | ((walk_at "mem"); done) | fail) PySem.F.slot_list_count PySem.F.type_list_count ?_)) | ((with_reducible show wpAny _ _ (call (Value.builtin _) [Value.ref _, Value.str _ _]) _ _ _); k_dflt (refine' count_list_strs (by first | ((exact News.isList (by k_asm) (by walk_at "mem")); done) | fail) (by first | (((first | assumption | exact StrsAre.nil | exact Mine.strsTake _ (by assumption) | exact Mine.strsDrop _ (by assumption))); done) | fail) ?_)) | (((with_reducible show wpAny _ _ (call (Value.builtin _) [Value.ref _]) _ _ _); k_dflt (refine' Mine.sorted_own (by k_asm) (by k_asm) (by first | ((exact News.isList (by k_asm) (by walk_at "mem")); done) | fail) (by first | (((first | assumption | exact StrsAre.nil | exact Mine.strsTake _ (by assumption) | exact Mine.strsDrop _ (by assumption))); done) | fail) (by walk_at "o") ?_); intro _ _ _ _ _ _ _ l1 _ _ _; (try k_lt l1)); (try (revert l1; intro _))) | ((with_reducible show wpAny _ _ (call (Value.builtin _) [Value.ref _]) _ _ _); k_dflt (refine' Mine.max_strs (by with_unfolding_all rfl) (by k_asm) (by k_asm) (by first | ((exact News.isList (by k_asm) (by walk_at "mem")); done) | fail) (by first | (((first | assumption | exact StrsAre.nil | exact Mine.strsTake _ (by assumption) | exact Mine.strsDrop _ (by assumption))); done) | fail) (by first | ((exact List.length_pos_iff.mpr (of_decide_eq_false (by assumption))); done) | fail) ?_); intro _ _ _ _ _) | ((with_reducible show wpAny _ _ (compareOp CmpOp.Eq (Value.ref _) (Value.ref _)) _ _ _); k_dflt (refine' Mine.eq_strs (by first | ((exact News.isList (by k_asm) (by walk_at "mem")); done) | fail) (by first | (((first | assumption | exact StrsAre.nil | exact Mine.strsTake _ (by assumption) | exact Mine.strsDrop _ (by assumption))); done) | fail) (by first | ((exact News.isList (by k_asm) (by walk_at "mem")); done) | fail) (by first | (((first | assumption | exact StrsAre.nil | exact Mine.strsTake _ (by assumption) | exact Mine.strsDrop _ (by assumption))); done) | fail) (by first | ((first | assumption | exact Mine.okS_nil); done) | fail) (by first | ((first | assumption | exact Mine.okS_nil); done) | fail) (by first | ((ktr_units); done) | fail) ?_)) | ((with_reducible show wpAny _ _ (compareOp CmpOp.NotIn (Value.str _ _) (Value.ref _)) _ _ _); k_dflt (refine' notin_list_strs (by first | ((exact News.isList (by k_asm) (by walk_at "mem")); done) | fail) (by first | (((first | assumption | exact StrsAre.nil | exact Mine.strsTake _ (by assumption) | exact Mine.strsDrop _ (by assumption))); done) | fail) ?_)) | ((with_reducible show wpAny _ _ (subscriptTail _ _ (Value.ref _) (Value.int _ _)) _ _ _); k_dflt (refine' Mine.item_strs (by first | ((exact News.isList (by k_asm) (by walk_at "mem")); done) | fail) (by assumption) (by walk_at "o") (by walk_at "o") ?_); intro _) | (((with_reducible show wpAny _ _ (call (Value.type "range") [Value.int _ _]) _ _ _); k_dflt (refine' Mine.range1_own (by k_asm) (by k_asm) ?_); intro _ _ _ _ _ _ _ _ l1; (try k_lt l1)); (try (revert l1; intro _))) | ((with_reducible show wpAny _ _ (call (Value.builtin "len") [Value.ref _]) _ _ _); k_dflt (refine' len_list (by first | ((exact News.isList (by k_asm) (by walk_at "mem")); done) | fail) (by first | ((walk_at "len"); done) | fail) ?_); (try simp only [List.size_toArray])) | (((with_reducible show wpAny _ _ (subscriptTail _ (PySem.Expr.Slice _ _ none _) (Value.ref _) (Value.ref _)) _ _ _); (rename Fr _ _ _ _ => hF'); (rename News _ _ _ _ => hN'); k_dflt (refine' Mine.slice_at hF' hN' (by first | ((walk_at "mem"); done) | fail) (by first | ((kmk_part); done) | fail) (by first | ((kmk_part); done) | fail) (by first | ((walk_at "pick"); done) | fail) ?_ (by with_unfolding_all rfl) (by first | ((kmk_pure); done) | fail) (by first | ((walk_at "len"); done) | fail)); clear hF' hN'; intro _ _ _ _ l1; (try k_lt l1)); (try (revert l1; intro _))) | walk1 | (dsimp only; walk1) | (leave1; walk_say "STEP leave1"; try dsimp only))))
    k_dflt refine LCt.Assign_ListComp_T F6 (by rfl) (by with_unfolding_all rfl) (by with_unfolding_all rfl) (by decide) (by rfl) (by decide) (by rfl) (by rfl) (by rfl) ?_ (by intro _; with_unfolding_all rfl)
    (repeat' (
  (fail_if_success (with_reducible show wpAny _ _ (call (Value.ref 110) _) _ _ _));
  (fail_if_success (with_reducible show wpAny _ _ (eval (Expr.ListComp _ _ _ _) _) _ _ _));
  (fail_if_success (with_reducible show wpAny _ _ (exec (Stmt.Assign _ (Expr.ListComp _ _ _ _) _) _) _ _ _));
  (first | (k_unfold; (try dsimp only)) | (k_end; wrow_close) | ((with_reducible show wpAny _ _ (getMethod (Value.ref _) (PySem.Str.ofString "count") _) _ _ _); k_dflt (refine' kf_method (by k_asm) (by first | ((walk_at "mem"); done) | fail) PySem.F.slot_list_count PySem.F.type_list_count ?_)) | ((with_reducible show wpAny _ _ (call (Value.builtin _) [Value.ref _, Value.str _ _]) _ _ _); k_dflt (refine' count_list_strs (by first | ((exact News.isList (by k_asm) (by walk_at "mem")); done) | fail) (by first | (((first | assumption | exact StrsAre.nil | exact Mine.strsTake _ (by assumption) | exact Mine.strsDrop _ (by assumption))); done) | fail) ?_)) | (((with_reducible show wpAny _ _ (call (Value.builtin _) [Value.ref _]) _ _ _); k_dflt (refine' Mine.sorted_own (by k_asm) (by k_asm) (by first | ((exact News.isList (by k_asm) (by walk_at "mem")); done) | fail) (by first | (((first | assumption | exact StrsAre.nil | exact Mine.strsTake _ (by assumption) | exact Mine.strsDrop _ (by assumption))); done) | fail) (by walk_at "o") ?_); intro _ _ _ _ _ _ _ l1 _ _ _; (try k_lt l1)); (try (revert l1; intro _))) | ((with_reducible show wpAny _ _ (call (Value.builtin _) [Value.ref _]) _ _ _); k_dflt (refine' Mine.max_strs (by with_unfolding_all rfl) (by k_asm) (by k_asm) (by first | ((exact News.isList (by k_asm) (by walk_at "mem")); done) | fail) (by first | (((first | assumption | exact StrsAre.nil | exact Mine.strsTake _ (by assumption) | exact Mine.strsDrop _ (by assumption))); done) | fail) (by first | ((exact List.length_pos_iff.mpr (of_decide_eq_false (by assumption))); done) | fail) ?_); intro _ _ _ _ _) | ((with_reducible show wpAny _ _ (compareOp CmpOp.Eq (Value.ref _) (Value.ref _)) _ _ _); k_dflt (refine' Mine.eq_strs (by first | ((exact News.isList (by k_asm) (by walk_at "mem")); done) | fail) (by first | (((first | assumption | exact StrsAre.nil | exact Mine.strsTake _ (by assumption) | exact Mine.strsDrop _ (by assumption))); done) | fail) (by first | ((exact News.isList (by k_asm) (by walk_at "mem")); done) | fail) (by first | (((first | assumption | exact StrsAre.nil | exact Mine.strsTake _ (by assumption) | exact Mine.strsDrop _ (by assumption))); done) | fail) (by first | ((first | assumption | exact Mine.okS_nil); done) | fail) (by first | ((first | assumption | exact Mine.okS_nil); done) | fail) (by first | ((ktr_units); done) | fail) ?_)) | ((with_reducible show wpAny _ _ (compareOp CmpOp.NotIn (Value.str _ _) (Value.ref _)) _ _ _); k_dflt (refine' notin_list_strs (by first | ((exact News.isList (by k_asm) (by walk_at "mem")); done) | fail) (by first | (((first | assumption | exact StrsAre.nil | exact Mine.strsTake _ (by assumption) | exact Mine.strsDrop _ (by assumption))); done) | fail) ?_)) | ((with_reducible show wpAny _ _ (subscriptTail _ _ (Value.ref _) (Value.int _ _)) _ _ _); k_dflt (refine' Mine.item_strs (by first | ((exact News.isList (by k_asm) (by walk_at "mem")); done) | fail) (by assumption) (by walk_at "o") (by walk_at "o") ?_); intro _) | (((with_reducible show wpAny _ _ (call (Value.type "range") [Value.int _ _]) _ _ _); k_dflt (refine' Mine.range1_own (by k_asm) (by k_asm) ?_); intro _ _ _ _ _ _ _ _ l1; (try k_lt l1)); (try (revert l1; intro _))) | ((with_reducible show wpAny _ _ (call (Value.builtin "len") [Value.ref _]) _ _ _); k_dflt (refine' len_list (by first | ((exact News.isList (by k_asm) (by walk_at "mem")); done) | fail) (by first | ((walk_at "len"); done) | fail) ?_); (try simp only [List.size_toArray])) | (((with_reducible show wpAny _ _ (subscriptTail _ (PySem.Expr.Slice _ _ none _) (Value.ref _) (Value.ref _)) _ _ _); (rename Fr _ _ _ _ => hF'); (rename News _ _ _ _ => hN'); k_dflt (refine' Mine.slice_at hF' hN' (by first | ((walk_at "mem"); done) | fail) (by first | ((kmk_part); done) | fail) (by first | ((kmk_part); done) | fail) (by first | ((walk_at "pick"); done) | fail) ?_ (by with_unfolding_all rfl) (by first | ((kmk_pure); done) | fail) (by first | ((walk_at "len"); done) | fail)); clear hF' hN'; intro _ _ _ _ l1; (try k_lt l1)); (try (revert l1; intro _))) | walk1 | (dsimp only; walk1) | (leave1; walk_say "STEP leave1"; try dsimp only))))
    rename Fr _ L' _ _ => F7
    rename News _ L' _ _ => N7
    refine srcRange (n := v2.length) rfl F7 N7 (.head _) (by walk_at "o") ?_
    intro hg2
    refine restT_inv (fun i ys nx => nx = _ ∧ StrsAre ys (filtTo (leftKeep ss os) os i)) ⟨rfl, .nil⟩ ?_ ?_
    · rintro i v ys nx Ic oI C oC D m₂ h5 tk5 E' hi ⟨t5, rfl⟩ ⟨rfl, hys⟩ hC hxv F5 N5 off ne
      rw [Int.zero_add] at hxv
      (repeat' (
  (fail_if_success (with_reducible show wpAny _ _ (call (Value.ref 110) _) _ _ _));
  (fail_if_success (with_reducible show wpAny _ _ (eval (Expr.ListComp _ _ _ _) _) _ _ _));
  (fail_if_success (with_reducible show wpAny _ _ (exec (Stmt.Assign _ (Expr.ListComp _ _ _ _) _) _) _ _ _));
  (first | (k_unfold; (try dsimp only)) | (k_end; wrow_close) | ((with_reducible show wpAny _ _ (getMethod (Value.ref _) (PySem.Str.ofString "count") _) _ _ _); k_dflt (refine' kf_method (by k_asm) (by first | ((walk_at "mem"); done) | fail) PySem.F.slot_list_count PySem.F.type_list_count ?_)) | ((with_reducible show wpAny _ _ (call (Value.builtin _) [Value.ref _, Value.str _ _]) _ _ _); k_dflt (refine' count_list_strs (by first | ((exact News.isList (by k_asm) (by walk_at "mem")); done) | fail) (by first | (((first | assumption | exact StrsAre.nil | exact Mine.strsTake _ (by assumption) | exact Mine.strsDrop _ (by assumption))); done) | fail) ?_)) | (((with_reducible show wpAny _ _ (call (Value.builtin _) [Value.ref _]) _ _ _); k_dflt (refine' Mine.sorted_own (by k_asm) (by k_asm) (by first | ((exact News.isList (by k_asm) (by walk_at "mem")); done) | fail) (by first | (((first | assumption | exact StrsAre.nil | exact Mine.strsTake _ (by assumption) | exact Mine.strsDrop _ (by assumption))); done) | fail) (by walk_at "o") ?_); intro _ _ _ _ _ _ _ l1 _ _ _; (try k_lt l1)); (try (revert l1; intro _))) | ((with_reducible show wpAny _ _ (call (Value.builtin _) [Value.ref _]) _ _ _); k_dflt (refine' Mine.max_strs (by with_unfolding_all rfl) (by k_asm) (by k_asm) (by first | ((exact News.isList (by k_asm) (by walk_at "mem")); done) | fail) (by first | (((first | assumption | exact StrsAre.nil | exact Mine.strsTake _ (by assumption) | exact Mine.strsDrop _ (by assumption))); done) | fail) (by first | ((exact List.length_pos_iff.mpr (of_decide_eq_false (by assumption))); done) | fail) ?_); intro _ _ _ _ _) | ((with_reducible show wpAny _ _ (compareOp CmpOp.Eq (Value.ref _) (Value.ref _)) _ _ _); k_dflt (refine' Mine.eq_strs (by first | ((exact News.isList (by k_asm) (by walk_at "mem")); done) | fail) (by first | (((first | assumption | exact StrsAre.nil | exact Mine.strsTake _ (by assumption) | exact Mine.strsDrop _ (by assumption))); done) | fail) (by first | ((exact News.isList (by k_asm) (by walk_at "mem")); done) | fail) (by first | (((first | assumption | exact StrsAre.nil | exact Mine.strsTake _ (by assumption) | exact Mine.strsDrop _ (by assumption))); done) | fail) (by first | ((first | assumption | exact Mine.okS_nil); done) | fail) (by first | ((first | assumption | exact Mine.okS_nil); done) | fail) (by first | ((ktr_units); done) | fail) ?_)) | ((with_reducible show wpAny _ _ (compareOp CmpOp.NotIn (Value.str _ _) (Value.ref _)) _ _ _); k_dflt (refine' notin_list_strs (by first | ((exact News.isList (by k_asm) (by walk_at "mem")); done) | fail) (by first | (((first | assumption | exact StrsAre.nil | exact Mine.strsTake _ (by assumption) | exact Mine.strsDrop _ (by assumption))); done) | fail) ?_)) | ((with_reducible show wpAny _ _ (subscriptTail _ _ (Value.ref _) (Value.int _ _)) _ _ _); k_dflt (refine' Mine.item_strs (by first | ((exact News.isList (by k_asm) (by walk_at "mem")); done) | fail) (by assumption) (by walk_at "o") (by walk_at "o") ?_); intro _) | (((with_reducible show wpAny _ _ (call (Value.type "range") [Value.int _ _]) _ _ _); k_dflt (refine' Mine.range1_own (by k_asm) (by k_asm) ?_); intro _ _ _ _ _ _ _ _ l1; (try k_lt l1)); (try (revert l1; intro _))) | ((with_reducible show wpAny _ _ (call (Value.builtin "len") [Value.ref _]) _ _ _); k_dflt (refine' len_list (by first | ((exact News.isList (by k_asm) (by walk_at "mem")); done) | fail) (by first | ((walk_at "len"); done) | fail) ?_); (try simp only [List.size_toArray])) | (((with_reducible show wpAny _ _ (subscriptTail _ (PySem.Expr.Slice _ _ none _) (Value.ref _) (Value.ref _)) _ _ _); (rename Fr _ _ _ _ => hF'); (rename News _ _ _ _ => hN'); k_dflt (refine' Mine.slice_at hF' hN' (by first | ((walk_at "mem"); done) | fail) (by first | ((kmk_part); done) | fail) (by first | ((kmk_part); done) | fail) (by first | ((walk_at "pick"); done) | fail) ?_ (by with_unfolding_all rfl) (by first | ((kmk_pure); done) | fail) (by first | ((walk_at "len"); done) | fail)); clear hF' hN'; intro _ _ _ _ l1; (try k_lt l1)); (try (revert l1; intro _))) | walk1 | (dsimp only; walk1) | (leave1; walk_say "STEP leave1"; try dsimp only))))
      · rename (_ < _) => hlt9
        have hk9 : leftKeep ss os i = true := decide_eq_true hlt9
        refine LCg.CompEnd.intro (by assumption) (by assumption) _ (fun p hp => .tail _ hp) off trivial ⟨rfl, ?_⟩
        rw [filtTo_succ, if_pos hk9]
        exact hys.append' (.cons _ _ .nil)
      · rename (¬ _ < _) => hlt9
        have hk9 : ¬ (leftKeep ss os i = true) := fun e => hlt9 (of_decide_eq_true e)
        refine LCg.CompEnd.intro (by assumption) (by assumption) _ (fun p hp => .tail _ hp) off trivial ⟨rfl, ?_⟩
        rw [filtTo_succ, if_neg hk9, List.append_nil]
        exact hys
    · rintro ys2 nx ⟨rfl, hys2⟩
      intro D2 h8 tk8 F8 N8 off2
      simp only [LCg.Off1] at off2
      (repeat' (
  (fail_if_success (with_reducible show wpAny _ _ (call (Value.ref 110) _) _ _ _));
  (fail_if_success (with_reducible show wpAny _ _ (eval (Expr.ListComp _ _ _ _) _) _ _ _));
  (fail_if_success (with_reducible show wpAny _ _ (exec (Stmt.Assign _ (Expr.ListComp _ _ _ _) _) _) _ _ _));
  (first | (k_unfold; (try dsimp only)) | (k_end; wrow_close) | ((with_reducible show wpAny _ _ (getMethod (Value.ref _) (PySem.Str.ofString "count") _) _ _ _); k_dflt (refine' kf_method (by k_asm) (by first | ((walk_at "mem"); done) | fail) PySem.F.slot_list_count PySem.F.type_list_count ?_)) | ((with_reducible show wpAny _ _ (call (Value.builtin _) [Value.ref _, Value.str _ _]) _ _ _); k_dflt (refine' count_list_strs (by first | ((exact News.isList (by k_asm) (by walk_at "mem")); done) | fail) (by first | (((first | assumption | exact StrsAre.nil | exact Mine.strsTake _ (by assumption) | exact Mine.strsDrop _ (by assumption))); done) | fail) ?_)) | (((with_reducible show wpAny _ _ (call (Value.builtin _) [Value.ref _]) _ _ _); k_dflt (refine' Mine.sorted_own (by k_asm) (by k_asm) (by first | ((exact News.isList (by k_asm) (by walk_at "mem")); done) | fail) (by first | (((first | assumption | exact StrsAre.nil | exact Mine.strsTake _ (by assumption) | exact Mine.strsDrop _ (by assumption))); done) | fail) (by walk_at "o") ?_); intro _ _ _ _ _ _ _ l1 _ _ _; (try k_lt l1)); (try (revert l1; intro _))) | ((with_reducible show wpAny _ _ (call (Value.builtin _) [Value.ref _]) _ _ _); k_dflt (refine' Mine.max_strs (by with_unfolding_all rfl) (by k_asm) (by k_asm) (by first | ((exact News.isList (by k_asm) (by walk_at "mem")); done) | fail) (by first | (((first | assumption | exact StrsAre.nil | exact Mine.strsTake _ (by assumption) | exact Mine.strsDrop _ (by assumption))); done) | fail) (by first | ((exact List.length_pos_iff.mpr (of_decide_eq_false (by assumption))); done) | fail) ?_); intro _ _ _ _ _) | ((with_reducible show wpAny _ _ (compareOp CmpOp.Eq (Value.ref _) (Value.ref _)) _ _ _); k_dflt (refine' Mine.eq_strs (by first | ((exact News.isList (by k_asm) (by walk_at "mem")); done) | fail) (by first | (((first | assumption | exact StrsAre.nil | exact Mine.strsTake _ (by assumption) | exact Mine.strsDrop _ (by assumption))); done) | fail) (by first | ((exact News.isList (by k_asm) (by walk_at "mem")); done) | fail) (by first | (((first | assumption | exact StrsAre.nil | exact Mine.strsTake _ (by assumption) | exact Mine.strsDrop _ (by assumption))); done) | fail) (by first | ((first | assumption | exact Mine.okS_nil); done) | fail) (by first | ((first | assumption | exact Mine.okS_nil); done) | fail) (by first | ((ktr_units); done) | fail) ?_)) | ((with_reducible show wpAny _ _ (compareOp CmpOp.NotIn (Value.str _ _) (Value.ref _)) _ _ _); k_dflt (refine' notin_list_strs (by first | ((exact News.isList (by k_asm) (by walk_at "mem")); done) | fail) (by first | (((first | assumption | exact StrsAre.nil | exact Mine.strsTake _ (by assumption) | exact Mine.strsDrop _ (by assumption))); done) | fail) ?_)) | ((with_reducible show wpAny _ _ (subscriptTail _ _ (Value.ref _) (Value.int _ _)) _ _ _); k_dflt (refine' Mine.item_strs (by first | ((exact News.isList (by k_asm) (by walk_at "mem")); done) | fail) (by assumption) (by walk_at "o") (by walk_at "o") ?_); intro _) | (((with_reducible show wpAny _ _ (call (Value.type "range") [Value.int _ _]) _ _ _); k_dflt (refine' Mine.range1_own (by k_asm) (by k_asm) ?_); intro _ _ _ _ _ _ _ _ l1; (try k_lt l1)); (try (revert l1; intro _))) | ((with_reducible show wpAny _ _ (call (Value.builtin "len") [Value.ref _]) _ _ _); k_dflt (refine' len_list (by first | ((exact News.isList (by k_asm) (by walk_at "mem")); done) | fail) (by first | ((walk_at "len"); done) | fail) ?_); (try simp only [List.size_toArray])) | (((with_reducible show wpAny _ _ (subscriptTail _ (PySem.Expr.Slice _ _ none _) (Value.ref _) (Value.ref _)) _ _ _); (rename Fr _ _ _ _ => hF'); (rename News _ _ _ _ => hN'); k_dflt (refine' Mine.slice_at hF' hN' (by first | ((walk_at "mem"); done) | fail) (by first | ((kmk_part); done) | fail) (by first | ((kmk_part); done) | fail) (by first | ((walk_at "pick"); done) | fail) ?_ (by with_unfolding_all rfl) (by first | ((kmk_pure); done) | fail) (by first | ((walk_at "len"); done) | fail)); clear hF' hN'; intro _ _ _ _ l1; (try k_lt l1)); (try (revert l1; intro _))) | walk1 | (dsimp only; walk1) | (leave1; walk_say "STEP leave1"; try dsimp only))))
      refine' c_lacking _ _ _ _ _ _ _ _ _ _ _ _ _ _ _ _ _ _ ?kB F8 ?kX ?kT ?hk ?hd ?hu N8 l1 l2 _ _ _ _ _ _ ?m1 ?m2 hs1 hs2 hz1 hz2 ho1 ho2 ?_
      case kB => assumption
      case kX => assumption
      case kT => assumption
      case hk => rfl
      case hd => ktr_room
      case hu => ktr_units
      case m1 => walk_at "mem"
      case m2 => walk_at "mem"
      intro Da wa na za h9 tk9 F9 N9 hwa hpa hsa la9
      k_lt la9
      (repeat' (
  (fail_if_success (with_reducible show wpAny _ _ (call (Value.ref 110) _) _ _ _));
  (fail_if_success (with_reducible show wpAny _ _ (eval (Expr.ListComp _ _ _ _) _) _ _ _));
  (fail_if_success (with_reducible show wpAny _ _ (exec (Stmt.Assign _ (Expr.ListComp _ _ _ _) _) _) _ _ _));
  (first | (k_unfold; (try dsimp only)) | (k_end; wrow_close) | ((with_reducible show wpAny _ _ (getMethod (Value.ref _) (PySem.Str.ofString "count") _) _ _ _); k_dflt (refine' kf_method (by k_asm) (by first | ((walk_at "mem"); done) | fail) PySem.F.slot_list_count PySem.F.type_list_count ?_)) | ((with_reducible show wpAny _ _ (call (Value.builtin _) [Value.ref _, Value.str _ _]) _ _ _); k_dflt (refine' count_list_strs (by first | ((exact News.isList (by k_asm) (by walk_at "mem")); done) | fail) (by first | (((first | assumption | exact StrsAre.nil | exact Mine.strsTake _ (by assumption) | exact Mine.strsDrop _ (by assumption))); done) | fail) ?_)) | (((with_reducible show wpAny _ _ (call (Value.builtin _) [Value.ref _]) _ _ _); k_dflt (refine' Mine.sorted_own (by k_asm) (by k_asm) (by first | ((exact News.isList (by k_asm) (by walk_at "mem")); done) | fail) (by first | (((first | assumption | exact StrsAre.nil | exact Mine.strsTake _ (by assumption) | exact Mine.strsDrop _ (by assumption))); done) | fail) (by walk_at "o") ?_); intro _ _ _ _ _ _ _ l1 _ _ _; (try k_lt l1)); (try (revert l1; intro _))) | ((with_reducible show wpAny _ _ (call (Value.builtin _) [Value.ref _]) _ _ _); k_dflt (refine' Mine.max_strs (by with_unfolding_all rfl) (by k_asm) (by k_asm) (by first | ((exact News.isList (by k_asm) (by walk_at "mem")); done) | fail) (by first | (((first | assumption | exact StrsAre.nil | exact Mine.strsTake _ (by assumption) | exact Mine.strsDrop _ (by assumption))); done) | fail) (by first | ((exact List.length_pos_iff.mpr (of_decide_eq_false (by assumption))); done) | fail) ?_); intro _ _ _ _ _) | ((with_reducible show wpAny _ _ (compareOp CmpOp.Eq (Value.ref _) (Value.ref _)) _ _ _); k_dflt (refine' Mine.eq_strs (by first | ((exact News.isList (by k_asm) (by walk_at "mem")); done) | fail) (by first | (((first | assumption | exact StrsAre.nil | exact Mine.strsTake _ (by assumption) | exact Mine.strsDrop _ (by assumption))); done) | fail) (by first | ((exact News.isList (by k_asm) (by walk_at "mem")); done) | fail) (by first | (((first | assumption | exact StrsAre.nil | exact Mine.strsTake _ (by assumption) | exact Mine.strsDrop _ (by assumption))); done) | fail) (by first | ((first | assumption | exact Mine.okS_nil); done) | fail) (by first | ((first | assumption | exact Mine.okS_nil); done) | fail) (by first | ((ktr_units); done) | fail) ?_)) | ((with_reducible show wpAny _ _ (compareOp CmpOp.NotIn (Value.str _ _) (Value.ref _)) _ _ _); k_dflt (refine' notin_list_strs (by first | ((exact News.isList (by k_asm) (by walk_at "mem")); done) | fail) (by first | (((first | assumption | exact StrsAre.nil | exact Mine.strsTake _ (by assumption) | exact Mine.strsDrop _ (by assumption))); done) | fail) ?_)) | ((with_reducible show wpAny _ _ (subscriptTail _ _ (Value.ref _) (Value.int _ _)) _ _ _); k_dflt (refine' Mine.item_strs (by first | ((exact News.isList (by k_asm) (by walk_at "mem")); done) | fail) (by assumption) (by walk_at "o") (by walk_at "o") ?_); intro _) | (((with_reducible show wpAny _ _ (call (Value.type "range") [Value.int _ _]) _ _ _); k_dflt (refine' Mine.range1_own (by k_asm) (by k_asm) ?_); intro _ _ _ _ _ _ _ _ l1; (try k_lt l1)); (try (revert l1; intro _))) | ((with_reducible show wpAny _ _ (call (Value.builtin "len") [Value.ref _]) _ _ _); k_dflt (refine' len_list (by first | ((exact News.isList (by k_asm) (by walk_at "mem")); done) | fail) (by first | ((walk_at "len"); done) | fail) ?_); (try simp only [List.size_toArray])) | (((with_reducible show wpAny _ _ (subscriptTail _ (PySem.Expr.Slice _ _ none _) (Value.ref _) (Value.ref _)) _ _ _); (rename Fr _ _ _ _ => hF'); (rename News _ _ _ _ => hN'); k_dflt (refine' Mine.slice_at hF' hN' (by first | ((walk_at "mem"); done) | fail) (by first | ((kmk_part); done) | fail) (by first | ((kmk_part); done) | fail) (by first | ((walk_at "pick"); done) | fail) ?_ (by with_unfolding_all rfl) (by first | ((kmk_pure); done) | fail) (by first | ((walk_at "len"); done) | fail)); clear hF' hN'; intro _ _ _ _ l1; (try k_lt l1)); (try (revert l1; intro _))) | walk1 | (dsimp only; walk1) | (leave1; walk_say "STEP leave1"; try dsimp only))))
      rename Fr _ L' _ _ => F10
      rename News _ L' _ _ => N10
      refine' c_lacking _ _ _ _ _ _ _ _ _ _ _ _ _ _ _ _ _ _ ?kB F10 ?kX ?kT ?hk ?hd ?hu N10 l2 l1 _ _ _ _ _ _ ?m1 ?m2 hs2 hs1 hz2 hz1 ho2 ho1 ?_
      case kB => assumption
      case kX => assumption
      case kT => assumption
      case hk => rfl
      case hd => ktr_room
      case hu => ktr_units
      case m1 => walk_at "mem"
      case m2 => walk_at "mem"
      intro Db wb nb zb h11 tk11 F11 N11 hwb hpb hsb lb9
      k_lt lb9
      have hf1 := filtTo_len (missKeep ss os) ss v1.length
      have hf2 := filtTo_len (leftKeep ss os) os v2.length
      have hf3 := hys.length
      have hf4 := hys2.length
      (repeat' (
  (fail_if_success (with_reducible show wpAny _ _ (call (Value.ref 110) _) _ _ _));
  (fail_if_success (with_reducible show wpAny _ _ (eval (Expr.ListComp _ _ _ _) _) _ _ _));
  (fail_if_success (with_reducible show wpAny _ _ (exec (Stmt.Assign _ (Expr.ListComp _ _ _ _) _) _) _ _ _));
  (first | (k_unfold; (try dsimp only)) | (k_end; wrow_close) | ((with_reducible show wpAny _ _ (getMethod (Value.ref _) (PySem.Str.ofString "count") _) _ _ _); k_dflt (refine' kf_method (by k_asm) (by first | ((walk_at "mem"); done) | fail) PySem.F.slot_list_count PySem.F.type_list_count ?_)) | ((with_reducible show wpAny _ _ (call (Value.builtin _) [Value.ref _, Value.str _ _]) _ _ _); k_dflt (refine' count_list_strs (by first | ((exact News.isList (by k_asm) (by walk_at "mem")); done) | fail) (by first | (((first | assumption | exact StrsAre.nil | exact Mine.strsTake _ (by assumption) | exact Mine.strsDrop _ (by assumption))); done) | fail) ?_)) | (((with_reducible show wpAny _ _ (call (Value.builtin _) [Value.ref _]) _ _ _); k_dflt (refine' Mine.sorted_own (by k_asm) (by k_asm) (by first | ((exact News.isList (by k_asm) (by walk_at "mem")); done) | fail) (by first | (((first | assumption | exact StrsAre.nil | exact Mine.strsTake _ (by assumption) | exact Mine.strsDrop _ (by assumption))); done) | fail) (by walk_at "o") ?_); intro _ _ _ _ _ _ _ l1 _ _ _; (try k_lt l1)); (try (revert l1; intro _))) | ((with_reducible show wpAny _ _ (call (Value.builtin _) [Value.ref _]) _ _ _); k_dflt (refine' Mine.max_strs (by with_unfolding_all rfl) (by k_asm) (by k_asm) (by first | ((exact News.isList (by k_asm) (by walk_at "mem")); done) | fail) (by first | (((first | assumption | exact StrsAre.nil | exact Mine.strsTake _ (by assumption) | exact Mine.strsDrop _ (by assumption))); done) | fail) (by first | ((exact List.length_pos_iff.mpr (of_decide_eq_false (by assumption))); done) | fail) ?_); intro _ _ _ _ _) | ((with_reducible show wpAny _ _ (compareOp CmpOp.Eq (Value.ref _) (Value.ref _)) _ _ _); k_dflt (refine' Mine.eq_strs (by first | ((exact News.isList (by k_asm) (by walk_at "mem")); done) | fail) (by first | (((first | assumption | exact StrsAre.nil | exact Mine.strsTake _ (by assumption) | exact Mine.strsDrop _ (by assumption))); done) | fail) (by first | ((exact News.isList (by k_asm) (by walk_at "mem")); done) | fail) (by first | (((first | assumption | exact StrsAre.nil | exact Mine.strsTake _ (by assumption) | exact Mine.strsDrop _ (by assumption))); done) | fail) (by first | ((first | assumption | exact Mine.okS_nil); done) | fail) (by first | ((first | assumption | exact Mine.okS_nil); done) | fail) (by first | ((ktr_units); done) | fail) ?_)) | ((with_reducible show wpAny _ _ (compareOp CmpOp.NotIn (Value.str _ _) (Value.ref _)) _ _ _); k_dflt (refine' notin_list_strs (by first | ((exact News.isList (by k_asm) (by walk_at "mem")); done) | fail) (by first | (((first | assumption | exact StrsAre.nil | exact Mine.strsTake _ (by assumption) | exact Mine.strsDrop _ (by assumption))); done) | fail) ?_)) | ((with_reducible show wpAny _ _ (subscriptTail _ _ (Value.ref _) (Value.int _ _)) _ _ _); k_dflt (refine' Mine.item_strs (by first | ((exact News.isList (by k_asm) (by walk_at "mem")); done) | fail) (by assumption) (by walk_at "o") (by walk_at "o") ?_); intro _) | (((with_reducible show wpAny _ _ (call (Value.type "range") [Value.int _ _]) _ _ _); k_dflt (refine' Mine.range1_own (by k_asm) (by k_asm) ?_); intro _ _ _ _ _ _ _ _ l1; (try k_lt l1)); (try (revert l1; intro _))) | ((with_reducible show wpAny _ _ (call (Value.builtin "len") [Value.ref _]) _ _ _); k_dflt (refine' len_list (by first | ((exact News.isList (by k_asm) (by walk_at "mem")); done) | fail) (by first | ((walk_at "len"); done) | fail) ?_); (try simp only [List.size_toArray])) | (((with_reducible show wpAny _ _ (subscriptTail _ (PySem.Expr.Slice _ _ none _) (Value.ref _) (Value.ref _)) _ _ _); (rename Fr _ _ _ _ => hF'); (rename News _ _ _ _ => hN'); k_dflt (refine' Mine.slice_at hF' hN' (by first | ((walk_at "mem"); done) | fail) (by first | ((kmk_part); done) | fail) (by first | ((kmk_part); done) | fail) (by first | ((walk_at "pick"); done) | fail) ?_ (by with_unfolding_all rfl) (by first | ((kmk_pure); done) | fail) (by first | ((walk_at "len"); done) | fail)); clear hF' hN'; intro _ _ _ _ l1; (try k_lt l1)); (try (revert l1; intro _))) | walk1 | (dsimp only; walk1) | (leave1; walk_say "STEP leave1"; try dsimp only))))
      rename Fr h₀ _ _ _ => kF
      rename News h₀ _ _ _ => kN
      have e1 : (filtTo (missKeep ss os) ss v1.length) = filtTo (missKeep ss os) ss ss.length := by rw [hvl1]
      have e2 : (filtTo (leftKeep ss os) os v2.length) = filtTo (leftKeep ss os) os os.length := by rw [hvl2]
      rw [e1] at hys
      rw [e2] at hys2
      rw [krv_pick] at kN
      refine' hret _ _ _ _ _ _ _ _ _ _ _ _ _ _ _ _ _ _ _ kF (news_sub kN ?sb) hwa hpa hsa hwb hpb hsb ?cc hys2
      case sb => walk_at "sub"
      case cc => exact strsRev hys
end
section
inductive WTN (L : Addr) (s : Shared) (G : Heap → Prop) (J : Nat → (Str → Option Value) → List (Addr × Obj) → Prop) (n : Nat) (s' : Shared) : Prop
  | mk (g' h' : Heap) (tk' : Nat) (m' : Str → Option Value) (nx' : List (Addr × Obj)) (n' : Nat) (e : s' = { s with heap := h', toks := tk' }) (hn : n' < n) (hG : G g') (F : Fr g' L h' m') (N : News g' L h' nx') (hJ : J n' m' nx') : WTN L s G J n s'
/-- a while's turn end: the ground may have turned -/
noncomputable def WhileTurn (L : Addr) (s : Shared) (G : Heap → Prop) (J : Nat → (Str → Option Value) → List (Addr × Obj) → Prop) (Q : Flow → Shared → Prop) (n : Nat) (f : Flow) (s' : Shared) : Prop :=
  match f with
  | .next | .cont => WTN L s G J n s'
  | .brk => Q .next s'
  | .ret v => Q (.ret v) s'
inductive WT (s : Shared) (L : Addr) (G : Heap → Prop) (J : Nat → (Str → Option Value) → List (Addr × Obj) → Prop) (n : Nat) (s' : Shared) : Prop
  | mk (g h₁ : Heap) (tk₁ : Nat) (m₁ : Str → Option Value) (news₁ : List (Addr × Obj)) (h1 : s' = { s with heap := h₁, toks := tk₁ }) (h2 : G g) (h3 : Fr g L h₁ m₁) (h4 : News g L h₁ news₁) (h5 : J n m₁ news₁) : WT s L G J n s'
section
variable {prog : Program} {w : World} {A : Around} {E : Value → Shared → Prop} {s : Shared} {h₀ : Heap} {env : Env} {L : Addr} {m : Str → Option Value} {news news' : List (Addr × Obj)}
theorem while_turn {test : Expr} {body : List Stmt} {pos : Pos} {Q : Flow → Shared → Prop} (G : Heap → Prop) (J : Nat → (Str → Option Value) → List (Addr × Obj) → Prop) {n₀ : Nat}
    (hG : G h₀) (F : Fr h₀ L s.heap m) (N : News h₀ L s.heap news) (hJ : J n₀ m news)
    (turn : ∀ n g m₁ news₁ h₁ tk₁, G g → Fr g L h₁ m₁ → News g L h₁ news₁ → J n m₁ news₁ →
      wpAny (model prog w) A (isTrue test env (eval test env)) (fun b s₂ =>
        if b = true then wpAny (model prog w) A (execs body env) (WhileTurn L s G J Q n) E s₂ else Q .next s₂) E { s with heap := h₁, toks := tk₁ })
    (hE : PassesOwn (model prog w) A env E := by passes_own) :
    wpAny (model prog w) A (exec (.While test body [] pos) env) Q E s := by
  refine wpAny_While (codeAny_whileLoop (WT s L G J) ?_ n₀ ⟨h₀, s.heap, s.toks, m, news, rfl, hG, F, N, hJ⟩)
  rintro n s' ⟨g, h₁, tk₁, m₁, news₁, rfl, g₁, F₁, N₁, J₁⟩
  refine wpAny_mono (turn n g m₁ news₁ h₁ tk₁ g₁ F₁ N₁ J₁) (fun b s₂ h₂ => ?_) hE
  cases b with
  | false =>
    simp only [Bool.false_eq_true, if_false] at h₂ ⊢
    exact wpAny_execs_nil h₂
  | true =>
    simp only [if_true] at h₂ ⊢
    refine wpAny_mono h₂ (fun f s₃ h₃ => ?_) hE
    cases f with
    | next =>
      obtain ⟨g', h', tk, m₂, news₂, n', rfl, hn, g₂, F₂, N₂, J₂⟩ := h₃
      exact ⟨n', hn, g', h', tk, m₂, news₂, rfl, g₂, F₂, N₂, J₂⟩
    | cont =>
      obtain ⟨g', h', tk, m₂, news₂, n', rfl, hn, g₂, F₂, N₂, J₂⟩ := h₃
      exact ⟨n', hn, g', h', tk, m₂, news₂, rfl, g₂, F₂, N₂, J₂⟩
    | brk => exact h₃
    | ret v => exact h₃
theorem whileTurn_end {L : Addr} {s : Shared} {G : Heap → Prop} {J : Nat → (Str → Option Value) → List (Addr × Obj) → Prop} {Q : Flow → Shared → Prop} {n : Nat} {g : Heap} {m' : Str → Option Value} {news' : List (Addr × Obj)} {h' : Heap} {tk : Nat} (g₁ : G g) (F : Fr g L h' m') (N : News g L h' news')
    (h : ∃ nx n', J n' m' nx ∧ (∀ p ∈ nx, p ∈ news') ∧ n' < n) : WhileTurn L s G J Q n .next { s with heap := h', toks := tk } := by
  obtain ⟨nx, n', hj, hn, hl⟩ := h
  exact ⟨g, h', tk, m', nx, n', rfl, hl, g₁, F, fun p hp => N p (hn p hp), hj⟩
theorem strs_last {us : List Value} {l : List Str} (hi : StrsAre us l) : 0 < us.length → ∃ y t, us = us.dropLast ++ [y] ∧ y = Value.str (l.getLastD Str.empty) t ∧ StrsAre us.dropLast l.dropLast := by
  induction hi with
  | nil => intro h; exact absurd h (Nat.lt_irrefl 0)
  | cons k t r ih =>
    intro _
    cases r with
    | nil => exact ⟨.str k t, t, rfl, rfl, .nil⟩
    | cons k' t' r' =>
      obtain ⟨y, u, h1, h2, h3⟩ := ih (Nat.succ_pos _)
      exact ⟨y, u, congrArg (List.cons (Value.str k t)) h1, h2, .cons k t h3⟩
/-- a list of texts gives its last -/
theorem pop_strs {D : Addr} {n : Nat} {us : List Value} {l : List Str} {Q : Value → Shared → Prop} (F : Fr h₀ L s.heap m) (N : News h₀ L s.heap news) (U : Upd D (listOf us.toArray n) (listOf us.dropLast.toArray (n + 1)) news news') (hi : StrsAre us l) (hne : 0 < us.length)
    (hz : us.length ≤ 10000) (h : ∀ h' t, Fr h₀ L h' m → News h₀ L h' news' → Q (.str (l.getLastD Str.empty) t) { s with heap := h' }) : wpAny (model prog w) A (call (.builtin "list.pop") [.ref D]) Q E s := by
  obtain ⟨y, t, h1, h2, h3⟩ := strs_last hi hne
  subst h2
  refine kl_pop F N (p := us.dropLast) (y := .str (l.getLastD Str.empty) t) ?_ U (by rw [sizeLine_eq]; show us.length ≤ _; walk_at "o") fun h' F' N' => h h' t F' N'
  have e := kpa_last (.str (l.getLastD Str.empty) t) us.dropLast
  rw [← h1] at e
  exact e
theorem strs_eraseIdx {vs : List Value} {ys : List Str} (h : StrsAre vs ys) (j : Nat) : StrsAre (vs.eraseIdx j) (ys.eraseIdx j) := by
  induction h generalizing j with
  | nil => exact .nil
  | cons y t h ih => cases j with
    | zero => exact h
    | succ j => exact .cons y t (ih j)
/-- the first place of a text -/
theorem strs_first {vs : List Value} {ys : List Str} (k : Str) (h : StrsAre vs ys) (hm : k ∈ ys) : ∃ j, ∃ hj : j < vs.length, isStrOf k vs[j] = true ∧ (∀ i (hi : i < vs.length), i < j → isStrOf k vs[i] = false) ∧ ys.eraseIdx j = ys.erase k := by
  induction h with
  | nil => cases hm
  | @cons y t vs ys h ih =>
    by_cases e : y = k
    · subst e
      exact ⟨0, by simp, by simp [isStrOf], fun i _ hi => absurd hi (Nat.not_lt_zero _), by simp⟩
    · obtain ⟨j, hj, a, b, c⟩ := ih (by
        rcases List.mem_cons.mp hm with q | q
        · exact absurd q.symm e
        · exact q)
      refine ⟨j + 1, by simpa using hj, by simpa using a, fun i hi hij => ?_, ?_⟩
      · cases i with
        | zero => simpa [isStrOf] using e
        | succ i => simpa using b i (by simpa using hi) (by walk_at "o")
      · rw [List.eraseIdx_cons_succ, c, List.erase_cons_tail (by simpa using e)]
theorem strs_none {vs : List Value} {ys : List Str} (k : Str) (h : StrsAre vs ys) (hm : k ∉ ys) : ∀ i (hi : i < vs.length), isStrOf k vs[i] = false := by
  induction h with
  | nil => intro i hi; exact absurd hi (Nat.not_lt_zero _)
  | @cons y t vs ys h ih =>
    intro i hi
    cases i with
    | zero =>
      have : y ≠ k := fun e => hm (e ▸ .head _)
      simpa [isStrOf] using this
    | succ i => simpa using ih (fun e => hm (.tail _ e)) i (by simpa using hi)
/-- a text leaves a list of texts, or is refused -/
theorem remove_strs {g : Obj → List (Addr × Obj)} {D : Addr} {n : Nat} {k : Str} {t : Tok} {us : List Value} {l : List Str} {Q : Value → Shared → Prop} (hA : A.handled = none) (F : Fr h₀ L s.heap m) (N : News h₀ L s.heap news) (hi : StrsAre us l) (U : UpdF D (listOf us.toArray n) news g) (hz : us.length ≤ 10000)
    (h1 : k ∈ l → ∀ us', StrsAre us' (l.erase k) → ∀ h', Fr h₀ L h' m → News h₀ L h' (g (listOf us'.toArray (n + 1))) → Q .none { s with heap := h' })
    (h2 : k ∉ l → ∀ h' tk e, Heap.NewExc s.heap h' e "ValueError" → E (.ref e) { s with heap := h', toks := tk }) :
    wpAny (model prog w) A (call (.builtin "list.remove") [.ref D, .str k t]) Q E s := by
  obtain ⟨pre, post, rfl, eg, ha, hp⟩ := U.split
  have z := N (D, listOf us.toArray n) (List.mem_append.mpr (.inr (.head _)))
  have hz' : us.toArray.size ≤ sizeLine := by rw [sizeLine_eq, List.size_toArray]; walk_at "o"
  by_cases hk : k ∈ l
  · obtain ⟨j, hj, a, b, c⟩ := strs_first k hi hk
    refine call_meets PySem.F.slot_list_remove ⟨_, z.1, rfl⟩ PySem.F.entry_list_remove (PySem.F.args_list_remove_2 _ _)
      (MeetsSeq.list_remove D us.toArray n (.str k t) (isStrOf k) (fun y hy => eq_isStrOf k t hi y (by simpa using hy)) j (by simpa using hj) (by simpa using a) (fun i h hlt => by simpa using b i (by simpa using h) hlt) hz')
      ⟨z.1, ?_⟩
    have e1 : us.toArray.eraseIdxIfInBounds j = (us.eraseIdx j).toArray := by
      apply Array.toList_inj.mp
      simp [Array.toList_eraseIdxIfInBounds]
    have e2 : (us.eraseIdx j).length ≠ us.length := by
      rw [List.length_eraseIdx_of_lt hj]
      walk_at "o"
    have e3 : Obj.mapSeq (fun xs => xs.eraseIdxIfInBounds j) (listOf us.toArray n) = listOf (us.eraseIdx j).toArray (n + 1) := by
      unfold Obj.mapSeq W.listOf
      simp only [e1, List.size_toArray]
      rw [if_neg (by simpa using e2)]
    have hup := news_upd F N ha hp e3 rfl
    refine h1 hk (us.eraseIdx j) (c ▸ strs_eraseIdx hi j) _ hup.1 ?_
    rw [eg]
    exact hup.2
  · refine call_meets PySem.F.slot_list_remove ⟨_, z.1, rfl⟩ PySem.F.entry_list_remove (PySem.F.args_list_remove_2 _ _)
      (MeetsSeq.list_remove_none D us.toArray n (.str k t) (isStrOf k) (fun y hy => eq_isStrOf k t hi y (by simpa using hy)) (fun i h => by simpa using strs_none k hi hk i (by simpa using h)))
      ⟨z.1, hA, h2 hk⟩
theorem truth_list {D : Addr} {us : List Value} {Q : Bool → Shared → Prop} (hl : s.heap.IsList D us.toArray) (hz : us.length ≤ 10000) (h : ∀ tk, Q (decide (0 < us.length)) { s with toks := tk }) : wpAny (model prog w) A (truthy (.ref D)) Q E s := by
  have hz2 : (2 : Int) ^ 63 = 9223372036854775808 := by decide
  refine wpAny_truthy_list hl (by rw [hz2, List.size_toArray]; walk_at "o") ?_
  have e : (!us.toArray.isEmpty) = decide (0 < us.length) := by
    cases us <;> simp
  rw [e]
  exact h _
end
section
variable {prog : Program} {w : World} {A : Around} {E : Value → Shared → Prop} {s : Shared}
/-- an item of a list of texts, at a place that is a number of the program, or none is there -/
theorem item_strsZ {l : Addr} {vs : List Value} {ys : List Str} {k : Int} {u : Tok} {value slice : Expr} {Q : Value → Shared → Prop} (hl : s.heap.IsList l vs.toArray) (hw : StrsAre vs ys) (h0 : 0 ≤ k) (hi : k.toNat < ys.length) (hs100 : ys.length ≤ 10000) (h : ∀ t', Q (.str (ys.getD k.toNat Str.empty) t') s)
    (hs : subscripted slice false (.ref l) (.int k u) = operate [.ref l, .int k u] (getItem (.ref l) (.int k u)) := by with_unfolding_all rfl) :
    wpAny (model prog w) A (subscriptTail value slice (.ref l) (.int k u)) Q E s := by
  obtain ⟨n, rfl⟩ : ∃ n : Nat, k = (n : Int) := ⟨k.toNat, by walk_at "o"⟩
  exact item_strs hl hw hi hs100 h hs
theorem item_none {l : Addr} {vs : List Value} {ys : List Str} {k : Int} {u : Tok} {value slice : Expr} {Q : Value → Shared → Prop} (hA : A.handled = none) (hl : s.heap.IsList l vs.toArray) (hw : StrsAre vs ys) (h0 : (ys.length : Int) ≤ k) (h1 : k ≤ 100000) (hs100 : ys.length ≤ 10000)
    (hE : ∀ h' tk e, Heap.NewExc s.heap h' e "IndexError" → E (.ref e) { s with heap := h', toks := tk })
    (hs : subscripted slice false (.ref l) (.int k u) = operate [.ref l, .int k u] (getItem (.ref l) (.int k u)) := by with_unfolding_all rfl) :
    wpAny (model prog w) A (subscriptTail value slice (.ref l) (.int k u)) Q E s := by
  have hz : (2 : Int) ^ 63 = 9223372036854775808 := by decide
  have hsz : (vs.toArray.size : Int) = ys.length := by rw [List.size_toArray, hw.length]
  exact item_outK hA hl (.inr (by rw [hsz]; exact h0)) (by rw [hz]; walk_at "o") (by rw [hz]; walk_at "o") hE hs
end
theorem extend_own {prog : Program} {w : World} {A : Around} {E : Value → Shared → Prop} {s : Shared} {h₀ : Heap} {L : Addr} {m : Str → Option Value} {news : List (Addr × Obj)} {g : Obj → List (Addr × Obj)} {l b : Addr} {xs ys : List Value} {n n2 : Nat} {Q : Value → Shared → Prop}
    (F : Fr h₀ L s.heap m) (N : News h₀ L s.heap news) (hb : (b, listOf ys.toArray n2) ∈ news) (U : UpdF l (listOf xs.toArray n) news g)
    (h : ∀ h' n', Fr h₀ L h' m → News h₀ L h' (g (listOf (xs ++ ys).toArray n')) → Q .none { s with heap := h' }) (hs1 : xs.length ≤ 10000) (hs2 : ys.length ≤ 10000) :
    wpAny (model prog w) A (call (.builtin "list.extend") [.ref l, .ref b]) Q E s := by
  obtain ⟨pre, post, rfl, eg, ha, hpo⟩ := U.split
  have hl := (N (l, listOf xs.toArray n) (List.mem_append.mpr (.inr (.head _))))
  have hbg := (N _ hb).1
  have hsz : sizeLine = 16777216 := sizeLine_eq
  have hup := news_upd F N ha hpo (mapSeq_list xs ys n) rfl
  refine call_meets PySem.F.slot_list_extend ⟨_, hl.1, rfl⟩ PySem.F.entry_list_extend (PySem.F.args_list_extend_2 _ _) (AutoSeq1.list_extend_list_list_0 l xs.toArray n b ys.toArray n2 ?_ (by rw [List.size_toArray]; walk_at "o") (by rw [List.size_toArray, List.size_toArray]; walk_at "o")) ⟨hl.1, hbg, ?_⟩
  · unfold Builtin.List.listTooLong; simp only [gt_iff_lt, Bool.and_eq_true, decide_eq_true_eq, not_and, List.size_toArray]; intro _; walk_at "o"
  · refine h _ (if ((xs ++ ys).toArray.size == xs.toArray.size) = true then n else n + 1) hup.1 ?_
    rw [eg]
    exact hup.2
end
section
section
variable {prog : Program} {w : World} {A₀ : Around} {E : Value → Shared → Prop} {s' : Shared} {base g g₀ h : Heap} {outer : List Env} {L a e : Addr} {m : Str → Option Value} {name : Str} {scope : Scope} {cd : Value}
  {b₀ : Stmt} {suite : List Stmt} {pos np : Pos} {rest : List ExceptHandler} {Q : Flow → Shared → Prop} {news : List (Addr × Obj)} {KF : Frag}
  {p : Program} {loose : List Str} {mean : ExcName → Option Value} {mg mb : Str → Option Value} {x : Str} {X T' : String}
/-- what a new exception of the own frame finds below, when it is looked at -/
theorem noted_own {Q : Unit → Shared → Prop} (hx : Heap.NewExc h s'.heap e X) (F : Fr g L h m) (N : News g L h news) (K : Below A₀ base outer g)
    (k : ∀ B a0 h', base.StaysIn B → B.get? L = none → (∀ b o, h.get? b = some o → b ∉ (envOf name scope L a cd :: outer).filterMap (·.frame) → B.get? b = some o) → (∀ q ∈ news, B.get? q.1 = some q.2) →
      Heap.HeldW B (envOf name scope L a cd :: outer) e (.type X) a0 L h' → h.UpToSlots h' → Q () { s' with heap := h' })
    (hk : scope.kind = .function := by rfl) :
    wpAny (model prog w) (A₀.deeper (envOf name scope L a cd)) (noteFrame (.ref e) (envOf name scope L a cd)) Q E s' := by
  have K' := K.push (name := name) (a := a) (cd := cd) F hk
  have hin : ∀ env ∈ (envOf name scope L a cd :: outer), ∀ b, env.frame = some b → b ∈ (envOf name scope L a cd :: outer).filterMap (·.frame) := fun env he b hb => List.mem_filterMap.mpr ⟨env, he, hb⟩
  have st : base.StaysIn (hideAll h ((envOf name scope L a cd :: outer).filterMap (·.frame))) := fun b o q => hideAll_get _ (K'.stays b o q) fun hm => by
    rw [(K'.frames.mem hm).1] at q; cases q
  have hl : ∀ q ∈ news, (hideAll h ((envOf name scope L a cd :: outer).filterMap (·.frame))).get? q.1 = some q.2 := fun q hq => by
    refine hideAll_get _ (N q hq).1 fun hm => ?_
    obtain ⟨env, he, hf⟩ := List.mem_filterMap.mp hm
    rcases List.mem_cons.mp he with rfl | he
    · exact (N q hq).2.1 (Option.some.inj hf).symm
    · obtain ⟨o, ho, _⟩ := (K.frames.mem (List.mem_filterMap.mpr ⟨env, he, hf⟩)).2
      rw [(N q hq).2.2] at ho; cases ho
  obtain ⟨ob, tp, he, hcls, hd⟩ := hx.there
  have hen : (hideAll h ((envOf name scope L a cd :: outer).filterMap (·.frame))).get? e = none := by
    cases q : (hideAll h ((envOf name scope L a cd :: outer).filterMap (·.frame))).get? e with
    | none => rfl
    | some o => have := of_hideAll _ q; rw [hx.new] at this; cases this
  have hLn : (hideAll h ((envOf name scope L a cd :: outer).filterMap (·.frame))).get? L = none := hideAll_none _ (List.mem_cons_self ..)
  unfold noteFrame
  simp only [show (envOf name scope L a cd).frame = some L from rfl]
  refine wpAny_bind (wpAny_field he hd (x := .none) rfl ?_)
  rw [if_neg (by decide)]
  refine wpAny_entryW (base := hideAll h ((envOf name scope L a cd :: outer).filterMap (·.frame))) (a0 := tp) K'.stack ((funFrames_hide K'.frames hin).of_keeps fun b o hb _ => ⟨o, hx.keeps b o hb, rfl⟩) rfl he (fun b o hb => hx.keeps b o (of_hideAll _ hb)) hen hd (by show 1 < 6; decide) rfl fun h' hN => ?_
  obtain ⟨k1, k2, k3, k4⟩ := hN
  exact k _ tp h' st hLn (fun b o q nm => hideAll_get _ q nm) hl ⟨k1, hen, k2, by rw [← hcls]; exact k3⟩ ((Heap.UpToSlots.of_keeps hx.keeps).trans k4)
/-- an exception of the own frame is caught in it; the frames below may have been noted -/
theorem caught_own0 (hx : Heap.NewExc h s'.heap e X) (F : Fr g L h m) (N : News g L h news) (K : Below A₀ base outer g) (XB : KF.In base) (TB : Top p loose mean mg mb base)
    (D : KtsDicts (outer.filterMap (·.frame)) g) (T0 : KtsTurn (outer.filterMap (·.frame)) g₀ g)
    (ex : nsIn KF mainGlobals x = some none) (hv : bootBuiltins x = some (.type T')) (hn' : x ≠ "__name__")
    (hexc : isSubtype (.type T') (.type "BaseException") = pure true) (hnt : isSubtype (.type ((Manifest.find? T').elim "type" fun y => y.metatype)) (.type "tuple") = pure false) (hsub : isSubtype (.type X) (.type T') = pure true)
    (k : ∀ h' g', KtsTurn (outer.filterMap (·.frame)) g₀ g' → Fr g' L h' m → News g' L h' news → Below A₀ base outer g' → KF.In g' → Top p loose mean mg mb g' → KtsDicts (outer.filterMap (·.frame)) g' →
      wpAny (model prog w) ((A₀.deeper (envOf name scope L a cd)).mark (some (.ref e))) (execs (b₀ :: suite) (envOf name scope L a cd)) Q E { s' with heap := h' })
    (hk : scope.kind = .function := by rfl) (hxk : (envOf name scope L a cd).kindOf x = some .globalImplicit := by rfl) (hd : (x == ("__debug__" : Str)) = false := by decide)
    (hE : PassesOwnAt (model prog w) ((A₀.deeper (envOf name scope L a cd)).mark (some (.ref e))) (A₀.deeper (envOf name scope L a cd)) (envOf name scope L a cd) E := by passes_own) :
    wpAny (model prog w) (A₀.deeper (envOf name scope L a cd)) (noteFrame (.ref e) (envOf name scope L a cd))
      (fun _ s₂ => wpAny (model prog w) (A₀.deeper (envOf name scope L a cd)) (setFlight (.ref e) none) (fun _ s₃ =>
        wpAny (model prog w) (A₀.deeper (envOf name scope L a cd)) (handleBy (.ref e) (envOf name scope L a cd) (.ExceptHandler (some (.Name x np)) none (b₀ :: suite) pos :: rest)) Q E s₃) E s₂) E s' := by
  refine noted_own hx F N K (fun B a0 h₄ hB hL hBG hl hheld₄ hsm₄ => ?_) hk
  refine wpAny_landsW hheld₄ fun h₅ hheld hsm₅' => ?_
  have hsm₅ := hsm₄.trans hsm₅'
  obtain ⟨g₅, T₅, F₅, K₅⟩ := kts_ground K F hBG hheld.1 hsm₅
  have X₅ : KF.In g₅ := XB.keeps K₅.stays
  have P₅ : TopRead p loose mg mb g₅ := topRead_of (TB.keeps K₅.stays)
  obtain ⟨ob, hob, hobc⟩ := hheld.there
  refine wpAny_handleBy_builtin (X := X) (T := T') (b := true) hexc hnt hsub (name_B F₅ X₅ P₅ ex hv hn' ⟨rfl, ⟨ob, hob, hobc⟩, ?_⟩ hk hxk hd)
  refine lands_againW hheld fun h₆ hfl₆ hsm₆ => ?_
  obtain ⟨g₆, T₆, F₆, K₆⟩ := kts_ground K F hBG hfl₆.1 (hsm₅.trans hsm₆)
  have Nl : News g₆ L h₆ news := fun q hq => ⟨hfl₆.1 _ _ (hl q hq), (fun z => by have := hl q hq; rw [z, hL] at this; cases this), T₆.none_ _ (N q hq).2.2⟩
  have X₆ : KF.In g₆ := XB.keeps K₆.stays
  have P₆ : Top p loose mean mg mb g₆ := TB.keeps K₆.stays
  have D₆ : KtsDicts (outer.filterMap (·.frame)) g₆ := D.turn T₆
  exact wpAny_passesOwnAt hE (k h₆ g₆ (T0.trans T₆) F₆ Nl K₆ X₆ P₆ D₆)
end
end
section
section
variable {prog : Program} {w : World} {A₀ : Around} {E : Value → Shared → Prop} {s' : Shared} {base g g₀ h : Heap} {outer : List Env} {L a e : Addr} {m : Str → Option Value} {name : Str} {scope : Scope} {cd : Value}
  {b₀ : Stmt} {suite : List Stmt} {pos np : Pos} {rest : List ExceptHandler} {Q : Flow → Shared → Prop} {news : List (Addr × Obj)} {KF : Frag}
  {p : Program} {loose : List Str} {mean : ExcName → Option Value} {mg mb : Str → Option Value} {x : Str} {X T' : String}
/-- an exception of the own frame is looked at for the first time: it and its entry are known -/
theorem noted_led {Q : Unit → Shared → Prop} {A : Around} {oe : Obj} {vs : Array Value} (hA : A.frames = some (envOf name scope L a cd :: outer)) (he : s'.heap.get? e = some oe) (hd : oe.data = .fields vs) (h1 : vs[1]? = some .none) (hkeep : ∀ b o, h.get? b = some o → s'.heap.get? b = some o) (hnew : h.get? e = none)
    (F : Fr g L h m) (N : News g L h news) (K : Below A₀ base outer g)
    (k : ∀ B h' T ts, base.StaysIn B → B.get? L = none → (∀ b o, h.get? b = some o → b ∉ (envOf name scope L a cd :: outer).filterMap (·.frame) → B.get? b = some o) → (∀ q ∈ news, B.get? q.1 = some q.2) → (∀ b o, B.get? b = some o → h.get? b = some o) →
      B.StaysIn h' → h'.FunFrames B (envOf name scope L a cd :: outer) → h.UpToSlots h' → h'.get? e = some (Obj.mapFields (·.setIfInBounds 1 (.ref T)) oe) → h'.get? T = some { cls := .type "traceback", dict := none, data := .fields ts } → ts[3]? = some (rawInt L) → T ≠ e → h.get? T = none → Q () { s' with heap := h' })
    (hk : scope.kind = .function := by rfl) :
    wpAny (model prog w) A (noteFrame (.ref e) (envOf name scope L a cd)) Q E s' := by
  have K' := K.push (name := name) (a := a) (cd := cd) F hk
  generalize hfl : (envOf name scope L a cd :: outer).filterMap (·.frame) = fl
  have hin : ∀ env ∈ (envOf name scope L a cd :: outer), ∀ b, env.frame = some b → b ∈ fl := fun env he b hb => hfl ▸ List.mem_filterMap.mpr ⟨env, he, hb⟩
  have hLm : L ∈ fl := hin _ (.head _) L rfl
  have st : base.StaysIn (hideAll h fl) := fun b o q => hideAll_get _ (K'.stays b o q) fun hm => by
    rw [← hfl] at hm
    rw [(K'.frames.mem hm).1] at q; cases q
  have hl : ∀ q ∈ news, (hideAll h fl).get? q.1 = some q.2 := fun q hq => by
    refine hideAll_get _ (N q hq).1 fun hm => ?_
    rw [← hfl] at hm
    obtain ⟨env, he, hf⟩ := List.mem_filterMap.mp hm
    rcases List.mem_cons.mp he with rfl | he
    · exact (N q hq).2.1 (Option.some.inj hf).symm
    · obtain ⟨o, ho, _⟩ := (K.frames.mem (List.mem_filterMap.mpr ⟨env, he, hf⟩)).2
      rw [(N q hq).2.2] at ho; cases ho
  have FF : s'.heap.FunFrames (hideAll h fl) (envOf name scope L a cd :: outer) := (funFrames_hide K'.frames hin).of_keeps fun b o hb _ => ⟨o, hkeep b o hb, rfl⟩
  have hef : e ∉ (envOf name scope L a cd :: outer).filterMap (·.frame) := fun hm => by
    obtain ⟨_, o, ho, hnf⟩ := FF.mem hm
    rw [he] at ho; injection ho with ho; subst ho; exact hnf vs hd
  unfold noteFrame
  simp only [show (envOf name scope L a cd).frame = some L from rfl]
  refine wpAny_bind (wpAny_field he hd h1 ?_)
  rw [if_neg (by decide)]
  refine wpAny_bind (wpAny_frameOf_fun hA FF rfl fun h₁ hs₁ => ?_)
  refine wpAny_bind (wpAny_entryPlaceOf fun pl hpl => ?_)
  unfold EntryCells.newEntry newFields
  refine wpAny_bind (wpAny_newObj_type ?_ (hpl.sizeOk5 _ _ _ _ _))
  have he₁ : h₁.get? e = some oe := (hs₁.2.1 e hef).trans he
  have he₂ := Heap.get?_push_of_some (h := h₁) { cls := .type "traceback", dict := none, data := .fields ([Value.none, .ref L, .none, rawInt L, .none] ++ (if pl.isEmpty then List.replicate 6 Value.none else pl)).toArray } he₁
  have hTe : h₁.objs.size ≠ e := Nat.ne_of_gt (Heap.lt_size he₁)
  refine wpAny_setField he₂ hd (Array.getElem?_eq_some_iff.mp h1).1 ?_
  have up : ∀ b o, s'.heap.get? b = some o → b ≠ e → ∃ sl, ((h₁.push { cls := .type "traceback", dict := none, data := .fields ([Value.none, .ref L, .none, rawInt L, .none] ++ (if pl.isEmpty then List.replicate 6 Value.none else pl)).toArray }).update e (Obj.mapFields (·.setIfInBounds 1 (.ref h₁.objs.size)))).get? b = some { o with slots := sl } := fun b o hb hbe => by
    obtain ⟨sl, hs⟩ := hs₁.2.2 b o hb
    refine ⟨sl, ?_⟩
    rw [Heap.get?_update_other _ _ (Ne.symm hbe)]
    exact Heap.get?_push_of_some _ hs
  have hxe : ∀ b o, h.get? b = some o → b ≠ e := fun b o hb q => by rw [q, hnew] at hb; cases hb
  refine k (hideAll h fl) _ h₁.objs.size ([Value.none, .ref L, .none, rawInt L, .none] ++ (if pl.isEmpty then List.replicate 6 Value.none else pl)).toArray st (hideAll_none _ hLm) (fun b o q nm => hideAll_get _ q (by rw [← hfl]; exact nm)) hl (fun b o q => of_hideAll _ q) (fun b o q => ?_) (FF.of_keeps fun b o hb hnf => ?_) (fun b o hb hnf => ?_) ?_ ?_ ?_ hTe ?_
  · have hb := of_hideAll _ q
    have hnf : b ∉ fl := fun hm => by rw [hideAll_none _ hm] at q; cases q
    rw [Heap.get?_update_other _ _ (Ne.symm (hxe b o hb))]
    exact Heap.get?_push_of_some _ ((hs₁.2.1 b (by rw [hfl]; exact hnf)).trans (hkeep b o hb))
  · obtain ⟨sl, hs⟩ := up b o hb fun q => by
      rw [q, he] at hb; injection hb with hb; subst hb; exact hnf vs hd
    exact ⟨_, hs, rfl⟩
  · obtain ⟨sl, hs⟩ := up b o (hkeep b o hb) (hxe b o hb)
    exact ⟨sl, hs⟩
  · exact Heap.get?_update_self _ he₂ (Obj.isFreed_of_fields (Obj.data_mapFields hd _))
  · rw [Heap.get?_update_other _ _ (Ne.symm hTe)]
    exact Heap.get?_push_size _ rfl
  · first | (simp; done) | (rcases hpl with rfl | ⟨_, _, _, _, _, _, _, rfl⟩ <;> simp)
  · cases q : h.get? h₁.objs.size with
    | none => rfl
    | some o =>
      have h2 := Heap.lt_size (hkeep _ _ q)
      obtain ⟨sl, hs⟩ := hs₁.2.2 _ _ (hkeep _ _ q)
      exact absurd (Heap.lt_size hs) (Nat.lt_irrefl _)
end
end
section
section
variable {prog : Program} {w : World} {A₀ : Around} {E : Value → Shared → Prop} {s' : Shared} {base g g₀ h : Heap} {outer : List Env} {L a e : Addr} {m : Str → Option Value} {name : Str} {scope : Scope} {cd : Value}
  {b₀ : Stmt} {suite : List Stmt} {pos np : Pos} {rest : List ExceptHandler} {Q : Flow → Shared → Prop} {news : List (Addr × Obj)} {KF : Frag}
  {p : Program} {loose : List Str} {mean : ExcName → Option Value} {mg mb : Str → Option Value} {x : Str} {X T' : String}
/-- an exception that is held in its own frame is caught there -/
theorem caught_heldW {B : Heap} {a0 : Value} (hL : B.get? L = none) (hBG : ∀ b o, h.get? b = some o → b ∉ (envOf name scope L a cd :: outer).filterMap (·.frame) → B.get? b = some o) (hl : ∀ q ∈ news, B.get? q.1 = some q.2)
    (hheld₄ : Heap.HeldW B (envOf name scope L a cd :: outer) e (.type X) a0 L s'.heap) (hsm₄ : h.UpToSlots s'.heap) (F : Fr g L h m) (N : News g L h news) (K : Below A₀ base outer g) (XB : KF.In base) (TB : Top p loose mean mg mb base)
    (D : KtsDicts (outer.filterMap (·.frame)) g) (T0 : KtsTurn (outer.filterMap (·.frame)) g₀ g)
    (ex : nsIn KF mainGlobals x = some none) (hv : bootBuiltins x = some (.type T')) (hn' : x ≠ "__name__")
    (hexc : isSubtype (.type T') (.type "BaseException") = pure true) (hnt : isSubtype (.type ((Manifest.find? T').elim "type" fun y => y.metatype)) (.type "tuple") = pure false) (hsub : isSubtype (.type X) (.type T') = pure true)
    (k : ∀ h' g', KtsTurn (outer.filterMap (·.frame)) g₀ g' → Fr g' L h' m → News g' L h' news → Below A₀ base outer g' → KF.In g' → Top p loose mean mg mb g' → KtsDicts (outer.filterMap (·.frame)) g' →
      wpAny (model prog w) ((A₀.deeper (envOf name scope L a cd)).mark (some (.ref e))) (execs (b₀ :: suite) (envOf name scope L a cd)) Q E { s' with heap := h' })
    (hk : scope.kind = .function := by rfl) (hxk : (envOf name scope L a cd).kindOf x = some .globalImplicit := by rfl) (hd : (x == ("__debug__" : Str)) = false := by decide)
    (hE : PassesOwnAt (model prog w) ((A₀.deeper (envOf name scope L a cd)).mark (some (.ref e))) (A₀.deeper (envOf name scope L a cd)) (envOf name scope L a cd) E := by passes_own) :
    wpAny (model prog w) (A₀.deeper (envOf name scope L a cd)) (setFlight (.ref e) none) (fun _ s₃ =>
        wpAny (model prog w) (A₀.deeper (envOf name scope L a cd)) (handleBy (.ref e) (envOf name scope L a cd) (.ExceptHandler (some (.Name x np)) none (b₀ :: suite) pos :: rest)) Q E s₃) E s' := by
  refine wpAny_landsW hheld₄ fun h₅ hheld hsm₅' => ?_
  have hsm₅ := hsm₄.trans hsm₅'
  obtain ⟨g₅, T₅, F₅, K₅⟩ := kts_ground K F hBG hheld.1 hsm₅
  have X₅ : KF.In g₅ := XB.keeps K₅.stays
  have P₅ : TopRead p loose mg mb g₅ := topRead_of (TB.keeps K₅.stays)
  obtain ⟨ob, hob, hobc⟩ := hheld.there
  refine wpAny_handleBy_builtin (X := X) (T := T') (b := true) hexc hnt hsub (name_B F₅ X₅ P₅ ex hv hn' ⟨rfl, ⟨ob, hob, hobc⟩, ?_⟩ hk hxk hd)
  refine lands_againW hheld fun h₆ hfl₆ hsm₆ => ?_
  obtain ⟨g₆, T₆, F₆, K₆⟩ := kts_ground K F hBG hfl₆.1 (hsm₅.trans hsm₆)
  have Nl : News g₆ L h₆ news := fun q hq => ⟨hfl₆.1 _ _ (hl q hq), (fun z => by have := hl q hq; rw [z, hL] at this; cases this), T₆.none_ _ (N q hq).2.2⟩
  exact wpAny_passesOwnAt hE (k h₆ g₆ (T0.trans T₆) F₆ Nl K₆ (XB.keeps K₆.stays) (TB.keeps K₆.stays) (D.turn T₆))
/-- the finally's suite begins, its exception in the ledger -/
theorem finally_own {e' : Addr} {final : List Stmt} {E₂ : Value → Shared → Prop} (hx : Heap.NewExc h s'.heap e X) (F : Fr g L h m) (N : News g L h news) (K : Below A₀ base outer g) (XB : KF.In base) (TB : Top p loose mean mg mb base)
    (D : KtsDicts (outer.filterMap (·.frame)) g) (T0 : KtsTurn (outer.filterMap (·.frame)) g₀ g)
    (k : ∀ h' g' T ts oe t, KtsTurn (outer.filterMap (·.frame)) g₀ g' → Fr g' L h' m → News g' L h' ((e, oe) :: (T, { cls := .type "traceback", dict := none, data := .fields ts }) :: news) → Below A₀ base outer g' → KF.In g' → Top p loose mean mg mb g' → KtsDicts (outer.filterMap (·.frame)) g' →
      oe.cls = .type X → oe.data = .fields #[t, .ref T, .none, .none, .bool false, .none] → 3 < ts.size → T ≠ e → (∀ q ∈ news, q.1 ≠ e ∧ q.1 ≠ T) →
      wpAny (model prog w) ((A₀.deeper (envOf name scope L a cd)).mark (some (.ref e))) (execs final (envOf name scope L a cd)) 
        (fun g s₂ => match g with | .next => wpAny (model prog w) (A₀.deeper (envOf name scope L a cd)) (passOn "try.finally" (.ref e) (envOf name scope L a cd)) Q E s₂ | g => wpAny (model prog w) (A₀.deeper (envOf name scope L a cd)) (setFlight (.ref e) none) (fun _ s₃ => Q g s₃) E s₂) 
        (notedBy (model prog w) ((A₀.deeper (envOf name scope L a cd)).mark (some (.ref e))) (envOf name scope L a cd) (cameBackBy (model prog w) (A₀.deeper (envOf name scope L a cd)) (envOf name scope L a cd) E)) { s' with heap := h' })
    (hk : scope.kind = .function := by rfl) :
    wpAny (model prog w) (A₀.deeper (envOf name scope L a cd)) (noteFrame (.ref e) (envOf name scope L a cd)) (fun _ s₂ => FinallyRaised prog w (A₀.deeper (envOf name scope L a cd)) E (envOf name scope L a cd) final Q (.ref e) s₂) E₂ s' := by
  obtain ⟨ob, t, he, hc, hd⟩ := hx.there
  refine noted_led (Around.frames_deeper K.stack) he hd rfl hx.keeps hx.new F N K (fun B h₄ T ts hB hL hBG hl hBh hst hff hsm heT hTT hts hTe hTn => ?_) hk
  refine ⟨ref_ne_byPass e, ?_⟩
  have hen : B.get? e = none := by
    cases q : B.get? e with
    | none => rfl
    | some o => have := hBh _ _ q; rw [hx.new] at this; cases this
  have hTB : B.get? T = none := by
    cases q : B.get? T with
    | none => rfl
    | some o => have := hBh _ _ q; rw [hTn] at this; cases this
  have hd4 : (Obj.mapFields (·.setIfInBounds 1 (.ref T)) ob).data = .fields #[t, .ref T, .none, .none, .bool false, .none] := Obj.data_mapFields hd _
  refine wpAny_noteFrame_againW (base := B) (cls := .type X) (a0 := t) rfl ⟨_, _, T, _, ts, heT, ⟨(Obj.cls_mapFields _ _).trans hc, rfl⟩, hd4, rfl, hTB, hTe, hTT, rfl, hts⟩ ?_
  have hsz3 : 3 < ts.size := (Array.getElem?_eq_some_iff.mp hts).1
  unfold setFlight
  refine wpAny_bind (wpAny_field (x := .ref T) heT hd4 rfl ?_)
  rw [if_pos (show (Value.ref T != Value.none) = true from by simp)]
  refine wpAny_setField hTT rfl hsz3 ?_
  have other : ∀ b, b ≠ T → (h₄.update T (Obj.mapFields (·.setIfInBounds 3 ((none : Option Addr).elim Value.none fun f => rawInt f)))).get? b = h₄.get? b := fun b hb => Heap.get?_update_other _ _ (Ne.symm hb)
  have hst5 : B.StaysIn (h₄.update T (Obj.mapFields (·.setIfInBounds 3 ((none : Option Addr).elim Value.none fun f => rawInt f)))) := fun b o q => (other b fun z => by rw [z, hTB] at q; cases q).trans (hst b o q)
  have hsm5 : h.UpToSlots (h₄.update T (Obj.mapFields (·.setIfInBounds 3 ((none : Option Addr).elim Value.none fun f => rawInt f)))) := fun b o q hn => by
    obtain ⟨sl, hs⟩ := hsm b o q hn
    exact ⟨sl, (other b fun z => by rw [z, hTn] at q; cases q).trans hs⟩
  obtain ⟨g₅, T₅, F₅, K₅⟩ := kts_ground K F hBG hst5 hsm5
  refine k _ g₅ T (ts.setIfInBounds 3 .none) (Obj.mapFields (·.setIfInBounds 1 (.ref T)) ob) t (T0.trans T₅) F₅ ?_ K₅ (XB.keeps K₅.stays) (TB.keeps K₅.stays) (D.turn T₅) ((Obj.cls_mapFields _ _).trans hc) hd4 (by simpa using hsz3) hTe ?_
  · intro q hq
    have hLs : ∃ o, h.get? L = some o := let ⟨o, es, ep, e1, _⟩ := F.ns; ⟨o, e1⟩
    rcases List.mem_cons.mp hq with rfl | hq
    · refine ⟨(other e (Ne.symm hTe)).trans heT, fun z => ?_, T₅.none_ _ (kts_none F.keep hx.new)⟩
      obtain ⟨o, ho⟩ := hLs
      have := hx.new
      rw [show e = L from z, ho] at this; cases this
    · rcases List.mem_cons.mp hq with rfl | hq
      · refine ⟨?_, fun z => ?_, T₅.none_ _ (kts_none F.keep hTn)⟩
        · rw [Heap.get?_update_self _ hTT rfl]
          rfl
        · obtain ⟨o, ho⟩ := hLs
          have := hTn
          rw [show T = L from z, ho] at this; cases this
      · exact ⟨hst5 _ _ (hl q hq), (fun z => by have := hl q hq; rw [z, hL] at this; cases this), T₅.none_ _ (N q hq).2.2⟩
  · intro q hq
    have h1 := (N q hq).1
    exact ⟨fun z => (by rw [z, hx.new] at h1; cases h1), fun z => (by rw [z, hTn] at h1; cases h1)⟩
end
end
section
section
variable {prog : Program} {w : World} {A₀ : Around} {E : Value → Shared → Prop} {s' : Shared} {base g g₀ h : Heap} {outer : List Env} {L a e : Addr} {m : Str → Option Value} {name : Str} {scope : Scope} {cd : Value}
  {b₀ : Stmt} {suite : List Stmt} {pos np : Pos} {rest : List ExceptHandler} {Q : Flow → Shared → Prop} {news : List (Addr × Obj)} {KF : Frag}
  {p : Program} {loose : List Str} {mean : ExcName → Option Value} {mg mb : Str → Option Value} {x : Str} {X T' : String}
/-- the finally is over: its exception goes on, and is caught in the same frame -/
theorem pass_caught {Q' : Flow → Shared → Prop} {oe : Obj} {T : Addr} {ts : Array Value} {t : Value} {what : String} (F : Fr g L s'.heap m) (N : News g L s'.heap ((e, oe) :: (T, { cls := .type "traceback", dict := none, data := .fields ts }) :: news))
    (hc : oe.cls = .type X) (hdt : oe.data = .fields #[t, .ref T, .none, .none, .bool false, .none]) (hsz : 3 < ts.size) (hTe : T ≠ e) (hne : ∀ q ∈ news, q.1 ≠ e ∧ q.1 ≠ T)
    (K : Below A₀ base outer g) (XB : KF.In base) (TB : Top p loose mean mg mb base)
    (D : KtsDicts (outer.filterMap (·.frame)) g) (T0 : KtsTurn (outer.filterMap (·.frame)) g₀ g)
    (ex : nsIn KF mainGlobals x = some none) (hv : bootBuiltins x = some (.type T')) (hn' : x ≠ "__name__")
    (hexc : isSubtype (.type T') (.type "BaseException") = pure true) (hnt : isSubtype (.type ((Manifest.find? T').elim "type" fun y => y.metatype)) (.type "tuple") = pure false) (hsub : isSubtype (.type X) (.type T') = pure true)
    (k : ∀ h' g', KtsTurn (outer.filterMap (·.frame)) g₀ g' → Fr g' L h' m → News g' L h' news → Below A₀ base outer g' → KF.In g' → Top p loose mean mg mb g' → KtsDicts (outer.filterMap (·.frame)) g' →
      wpAny (model prog w) ((A₀.deeper (envOf name scope L a cd)).mark (some (.ref e))) (execs (b₀ :: suite) (envOf name scope L a cd)) Q E { s' with heap := h' })
    (hk : scope.kind = .function := by rfl) (hxk : (envOf name scope L a cd).kindOf x = some .globalImplicit := by rfl) (hd : (x == ("__debug__" : Str)) = false := by decide)
    (hE : PassesOwnAt (model prog w) ((A₀.deeper (envOf name scope L a cd)).mark (some (.ref e))) (A₀.deeper (envOf name scope L a cd)) (envOf name scope L a cd) E := by passes_own) :
    wpAny (model prog w) (A₀.deeper (envOf name scope L a cd)) (PySem.passOn what (.ref e) (envOf name scope L a cd)) Q'
      (fun e s₁ => wpAny (model prog w) (A₀.deeper (envOf name scope L a cd)) (noteFrame e (envOf name scope L a cd))
      (fun _ s₂ => wpAny (model prog w) (A₀.deeper (envOf name scope L a cd)) (setFlight e none) (fun _ s₃ =>
        wpAny (model prog w) (A₀.deeper (envOf name scope L a cd)) (handleBy e (envOf name scope L a cd) (.ExceptHandler (some (.Name x np)) none (b₀ :: suite) pos :: rest)) Q E s₃) E s₂) E s₁) s' := by
  have ne0 := (N _ (.head _))
  have nT0 := (N _ (.tail _ (.head _)))
  dsimp only at ne0 nT0
  -- the heap without the exception and its entry
  have hm2 : ∀ b, b ∈ [e, T] ↔ b = e ∨ b = T := fun b => by simp
  have FG : Fr g L (hideAll s'.heap [e, T]) m := by
    refine ⟨F.ns.at' fun o q => hideAll_get _ q fun hm => ?_, fun b o q => hideAll_get _ (F.keep b o q) fun hm => ?_, F.above⟩
    · rcases (hm2 L).mp hm with z | z
      · exact ne0.2.1 z.symm
      · exact nT0.2.1 z.symm
    · rcases (hm2 b).mp hm with z | z
      · rw [z, ne0.2.2] at q; cases q
      · rw [z, nT0.2.2] at q; cases q
  have NG : News g L (hideAll s'.heap [e, T]) news := fun q hq => ⟨hideAll_get _ (N q (.tail _ (.tail _ hq))).1 fun hm => by
    rcases (hm2 q.1).mp hm with z | z
    · exact (hne q hq).1 z
    · exact (hne q hq).2 z, (N q (.tail _ (.tail _ hq))).2⟩
  have K' := K.push (name := name) (a := a) (cd := cd) FG hk
  generalize hfl : (envOf name scope L a cd :: outer).filterMap (·.frame) = fl
  have hin : ∀ env ∈ (envOf name scope L a cd :: outer), ∀ b, env.frame = some b → b ∈ fl := fun env he b hb => hfl ▸ List.mem_filterMap.mpr ⟨env, he, hb⟩
  have hLm : L ∈ fl := hin _ (.head _) L rfl
  have hl : ∀ q ∈ news, (hideAll (hideAll s'.heap [e, T]) fl).get? q.1 = some q.2 := fun q hq => by
    refine hideAll_get _ (NG q hq).1 fun hm => ?_
    rw [← hfl] at hm
    obtain ⟨env, he, hf⟩ := List.mem_filterMap.mp hm
    rcases List.mem_cons.mp he with rfl | he
    · exact (NG q hq).2.1 (Option.some.inj hf).symm
    · obtain ⟨o, ho, _⟩ := (K.frames.mem (List.mem_filterMap.mpr ⟨env, he, hf⟩)).2
      rw [(NG q hq).2.2] at ho; cases ho
  have off : ∀ b o, (hideAll s'.heap [e, T]).get? b = some o → s'.heap.get? b = some o ∧ b ≠ e ∧ b ≠ T := fun b o q => by
    refine ⟨of_hideAll _ q, fun z => ?_, fun z => ?_⟩
    · rw [z, hideAll_none _ (by simp)] at q; cases q
    · rw [z, hideAll_none _ (by simp)] at q; cases q
  unfold PySem.passOn
  refine wpAny_bind (wpAny_field (x := .ref T) ne0.1 hdt rfl ?_)
  rw [if_neg (by simp)]
  simp only [show (envOf name scope L a cd).frame = some L from rfl]
  refine wpAny_bind ?_
  unfold setFlight
  refine wpAny_bind (wpAny_field (x := .ref T) ne0.1 hdt rfl ?_)
  rw [if_pos (show (Value.ref T != Value.none) = true from by simp)]
  refine wpAny_setField nT0.1 rfl hsz ?_
  refine wpAny_throw ?_
  generalize hh4 : (s'.heap.update T (Obj.mapFields (·.setIfInBounds 3 ((some L : Option Addr).elim Value.none fun f => rawInt f)))) = h₄
  have other : ∀ b, b ≠ T → h₄.get? b = s'.heap.get? b := fun b hb => by rw [← hh4]; exact Heap.get?_update_other _ _ (Ne.symm hb)
  have hT4 : h₄.get? T = some { cls := .type "traceback", dict := none, data := .fields (ts.setIfInBounds 3 (rawInt L)) } := by
    rw [← hh4, Heap.get?_update_self _ nT0.1 rfl]; rfl
  have keep4 : ∀ b o, (hideAll s'.heap [e, T]).get? b = some o → h₄.get? b = some o := fun b o q => (other b (off b o q).2.2).trans (off b o q).1
  have ht : h₄.TracedAtW (hideAll (hideAll s'.heap [e, T]) fl) e (.type X) t (rawInt L) := by
    refine ⟨oe, _, T, _, ts.setIfInBounds 3 (rawInt L), (other e (Ne.symm hTe)).trans ne0.1, ⟨hc, rfl⟩, hdt, rfl, ?_, hTe, hT4, rfl, by simp [hsz]⟩
    cases q : (hideAll (hideAll s'.heap [e, T]) fl).get? T with
    | none => rfl
    | some o => exact absurd rfl (off _ _ (of_hideAll _ q)).2.2
  refine wpAny_noteFrame_againW (base := hideAll (hideAll s'.heap [e, T]) fl) (cls := .type X) (a0 := t) rfl ht ?_
  refine caught_heldW (h := hideAll s'.heap [e, T]) (B := hideAll (hideAll s'.heap [e, T]) fl) (a0 := t) (news := news) (hideAll_none _ hLm) (fun b o q nm => hideAll_get _ q (by rw [← hfl]; exact nm)) hl ⟨fun b o q => keep4 b o (of_hideAll _ q), ?_, ?_, ht⟩ (Heap.UpToSlots.of_keeps keep4) FG NG K XB TB D T0 ex hv hn' hexc hnt hsub k hk hxk hd hE
  · cases q : (hideAll (hideAll s'.heap [e, T]) fl).get? e with
    | none => rfl
    | some o => exact absurd rfl (off _ _ (of_hideAll _ q)).2.1
  · exact (funFrames_hide K'.frames hin).of_keeps fun b o hb _ => ⟨o, keep4 b o hb, rfl⟩
end
end
section
/-- a new exception, raised while another is handled -/
structure NewExcC (h h' : Heap) (e e0 : Addr) (cls : String) : Prop where
  keeps : ∀ b o, h.get? b = some o → h'.get? b = some o
  new : h.get? e = none
  there : ∃ ob t, h'.get? e = some ob ∧ ob.cls = .type cls ∧ ob.data = .fields #[t, .none, .ref e0, .none, .bool false, .none]
section
variable {α : Type} {prog : Program} {w : World} {A : Around} {E : Value → Shared → Prop} {s : Shared}
theorem entry_unchain : entryFor table "proto.unchain" = some Builtin.«proto.unchain» := entryFor_of_fast (by kernel_rfl)
theorem plain_unchain : plainId "proto.unchain" = true := by decide +kernel
theorem unchain_none {x : Value} {e0 : Addr} {o : Obj} {vs : Array Value} {Q : Value → Shared → Prop} (ho : s.heap.get? e0 = some o) (hd : o.data = .fields vs) (h2 : vs[2]? = some .none) (h : Q .none s) :
    wpAny (model prog w) A (runValue (.builtin "proto.unchain" ⟨[x, .ref e0, .ref e0, .bool false], []⟩)) Q E s := by
  refine wpAny_runValue (codeAny_builtin entry_unchain ?_)
  rw [Around.under_plainId plain_unchain _]
  show wpAny _ A.in1 (field (.ref e0) 2 >>= _) _ _ s
  refine wpAny_bind (wpAny_field (x := .none) ho hd h2 ?_)
  rw [if_pos (by rfl)]
  first
    | exact wpAny_bind (wpAny_pure (wpAny_pure h))
    | exact wpAny_bind (wpAny_bind (wpAny_pure (wpAny_pure h)))
    | exact wpAny_pure h
    | trace_state
theorem raise_ctx {cls msg : String} {Q : α → Shared → Prop} {e0 : Addr} {o : Obj} {vs : Array Value} (hp : PlainExc cls) (hh : A.handled = some (.ref e0)) (ho : s.heap.get? e0 = some o) (hd : o.data = .fields vs) (h2 : vs[2]? = some .none)
    (h : ∀ h' tk e, NewExcC s.heap h' e e0 cls → E (.ref e) { s with heap := h', toks := tk }) :
    wpAny (model prog w) A (raiseErrorWords cls msg : Sem α) Q E s := by
  unfold raiseErrorWords
  refine wpAny_bind (wpAny_mkText (wpAny_bind ?_))
  unfold newExc newTuple
  refine wpAny_bind (wpAny_newObj_type ?_)
  refine wpAny_bind (m := firstArgMember _ _) (wpAny_of_eq (a := Value.none) (by simp only [firstArgMember, hp.first]; rfl) ?_)
  rw [hp.own]
  refine wpAny_newObj_type ?_
  unfold raiseNew
  refine wpAny_bind (wpAny_handled ?_)
  rw [hh]
  have hlt := Heap.lt_size ho
  have ho2 : ∀ o1 o2 : Obj, ((s.heap.push o1).push o2).get? e0 = some o := fun o1 o2 => Heap.get?_push_of_some _ (Heap.get?_push_of_some _ ho)
  dsimp only
  split
  rotate_left
  · rename_i q2
    refine absurd ?_ q2
    simp only [bne_iff_ne, ne_eq, Value.ref.injEq]
    refine Nat.ne_of_lt (Nat.lt_of_lt_of_eq (Nat.lt_succ_of_lt hlt) (Heap.size_push ..).symm)
  refine wpAny_bind (wpAny_holding (unchain_none (ho2 _ _) hd h2 ?_))
  refine wpAny_bind ?_
  have hen : (s.heap.push { cls := .type "tuple", dict := none, data := .seq #[.str (Str.ofString msg) s.toks] }).objs.size = s.heap.objs.size + 1 := Heap.size_push ..
  refine wpAny_setField (vs := #[.ref s.heap.objs.size, .none, .none, .none, .bool false, .none]) (i := 2) (x := .ref e0) (Heap.get?_push_size _ rfl) rfl (by show 2 < 6; decide) (wpAny_throw ?_)
  refine h _ _ _ ⟨fun b o hb => ?_, Heap.get?_none_of_le (by simp), _, .ref s.heap.objs.size, Heap.get?_update_self _ (Heap.get?_push_size _ rfl) rfl, rfl, rfl⟩
  refine (Heap.get?_update_other _ _ ?_).trans (Heap.get?_push_of_some _ (Heap.get?_push_of_some _ hb))
  exact Ne.symm (Nat.ne_of_lt (Nat.lt_of_lt_of_eq (Nat.lt_succ_of_lt (Heap.lt_size hb)) (Heap.size_push ..).symm))
end
end
section
section
variable {prog : Program} {w : World} {A : Around} {E : Value → Shared → Prop} {s : Shared}
/-- no item is there, and another exception is being handled -/
theorem item_noneC {l e0 : Addr} {o0 : Obj} {v0 : Array Value} {vs : List Value} {ys : List Str} {k : Int} {u : Tok} {value slice : Expr} {Q : Value → Shared → Prop} (hh : A.handled = some (.ref e0)) (ho0 : s.heap.get? e0 = some o0) (hd0 : o0.data = .fields v0) (h20 : v0[2]? = some .none)
    (hl : s.heap.IsList l vs.toArray) (hw : StrsAre vs ys) (h0 : (ys.length : Int) ≤ k) (h1 : k ≤ 100000) (hs100 : ys.length ≤ 10000)
    (hE : ∀ h' tk e, NewExcC s.heap h' e e0 "IndexError" → E (.ref e) { s with heap := h', toks := tk })
    (hs : subscripted slice false (.ref l) (.int k u) = operate [.ref l, .int k u] (getItem (.ref l) (.int k u)) := by with_unfolding_all rfl) :
    wpAny (model prog w) A (subscriptTail value slice (.ref l) (.int k u)) Q E s := by
  have hz : (2 : Int) ^ 63 = 9223372036854775808 := by decide
  refine tail_any hl.typeIs slot_list_getitem.lookup ?_ hs
  obtain ⟨o, ho, hc, n, hd⟩ := id hl
  unfold getItem
  try with_reducible refine wpAny_holding ?_
  try refine wpAny_bind (wpAny_pure ?_)
  refine wpAny_bind (wpAny_sequenceKey hl.typeIs (by decide) ?_)
  refine wpAny_bind (wpAny_callSpecial?_slot (name := Str.ofString "__getitem__") hl.typeIs slot_list_getitem (wpAny_call_entry slot_list_getitem hl.typeIs entry_list_getitem ?_ (args_list_getitem _ _)))
  show wpAny _ _ (Builtin.List.listSubscript? (.int k u) >>= _) _ _ s
  refine wpAny_bind (wpAny_listSubscript_int (fitsIndex_both (by rw [hz]; walk_at "o") (by rw [hz]; walk_at "o")) ?_)
  cases k with
  | negSucc j => exact absurd h0 (by have := Int.negSucc_lt_zero j; walk_at "o")
  | ofNat j =>
  have hx : vs.toArray[j]? = none := by
    refine Array.getElem?_eq_none ?_
    rw [List.size_toArray, hw.length]
    have : (ys.length : Int) ≤ (j : Int) := h0
    walk_at "o"
  show wpAny _ _ ((seqItemAt l j >>= fun r => pure (r.map (j, ·))) >>= _) _ _ s
  refine wpAny_bind (wpAny_bind (wpAny_seqItemAt ho hd (wpAny_pure ?_)))
  rw [hx]
  first
    | exact wpAny_bind (wpAny_rule (raise_ctx plainExc_IndexError hh ho0 hd0 h20 hE))
    | exact wpAny_bind (wpAny_rule (wpAny_bind (raise_ctx plainExc_IndexError hh ho0 hd0 h20 hE)))
    | exact wpAny_bind (wpAny_bind (wpAny_rule (raise_ctx plainExc_IndexError hh ho0 hd0 h20 hE)))
    | exact wpAny_rule (raise_ctx plainExc_IndexError hh ho0 hd0 h20 hE)
    | trace_state
end
/-- a new exception, its context known -/
structure NewExcV (h h' : Heap) (e : Addr) (c2 : Value) (cls : String) : Prop where
  keeps : ∀ b o, h.get? b = some o → h'.get? b = some o
  new : h.get? e = none
  there : ∃ ob t, h'.get? e = some ob ∧ ob.cls = .type cls ∧ ob.data = .fields #[t, .none, c2, .none, .bool false, .none]
theorem newExcV {h h' : Heap} {e : Addr} {cls : String} (x : Heap.NewExc h h' e cls) : NewExcV h h' e .none cls := ⟨x.keeps, x.new, x.there⟩
theorem newExcC {h h' : Heap} {e e0 : Addr} {cls : String} (x : NewExcC h h' e e0 cls) : NewExcV h h' e (.ref e0) cls := ⟨x.keeps, x.new, x.there⟩
section
variable {prog : Program} {w : World} {A₀ : Around} {E : Value → Shared → Prop} {s' : Shared} {base g g₀ h : Heap} {outer : List Env} {L a e : Addr} {m : Str → Option Value} {name : Str} {scope : Scope} {cd : Value}
  {b₀ : Stmt} {suite : List Stmt} {pos np : Pos} {rest : List ExceptHandler} {Q : Flow → Shared → Prop} {news : List (Addr × Obj)} {KF : Frag}
  {p : Program} {loose : List Str} {mean : ExcName → Option Value} {mg mb : Str → Option Value} {x : Str} {X T' : String}
/-- an exception raised in a finally's suite, that handled another, is caught in the same frame -/
theorem ctx_caught {A₁ : Around} {c2 : Value} (hA : A₁.frames = some (envOf name scope L a cd :: outer)) (hx : NewExcV h s'.heap e c2 X) (F : Fr g L h m) (N : News g L h news) (K : Below A₀ base outer g) (XB : KF.In base) (TB : Top p loose mean mg mb base)
    (D : KtsDicts (outer.filterMap (·.frame)) g) (T0 : KtsTurn (outer.filterMap (·.frame)) g₀ g)
    (ex : nsIn KF mainGlobals x = some none) (hv : bootBuiltins x = some (.type T')) (hn' : x ≠ "__name__")
    (hexc : isSubtype (.type T') (.type "BaseException") = pure true) (hnt : isSubtype (.type ((Manifest.find? T').elim "type" fun y => y.metatype)) (.type "tuple") = pure false) (hsub : isSubtype (.type X) (.type T') = pure true)
    (k : ∀ h' g', KtsTurn (outer.filterMap (·.frame)) g₀ g' → Fr g' L h' m → News g' L h' news → Below A₀ base outer g' → KF.In g' → Top p loose mean mg mb g' → KtsDicts (outer.filterMap (·.frame)) g' →
      wpAny (model prog w) ((A₀.deeper (envOf name scope L a cd)).mark (some (.ref e))) (execs (b₀ :: suite) (envOf name scope L a cd)) Q E { s' with heap := h' })
    (hk : scope.kind = .function := by rfl) (hxk : (envOf name scope L a cd).kindOf x = some .globalImplicit := by rfl) (hd : (x == ("__debug__" : Str)) = false := by decide)
    (hE : PassesOwnAt (model prog w) ((A₀.deeper (envOf name scope L a cd)).mark (some (.ref e))) (A₀.deeper (envOf name scope L a cd)) (envOf name scope L a cd) E := by passes_own) :
    notedBy (model prog w) A₁ (envOf name scope L a cd) (cameBackBy (model prog w) (A₀.deeper (envOf name scope L a cd)) (envOf name scope L a cd)
      (fun e s₁ => wpAny (model prog w) (A₀.deeper (envOf name scope L a cd)) (noteFrame e (envOf name scope L a cd))
      (fun _ s₂ => wpAny (model prog w) (A₀.deeper (envOf name scope L a cd)) (setFlight e none) (fun _ s₃ =>
        wpAny (model prog w) (A₀.deeper (envOf name scope L a cd)) (handleBy e (envOf name scope L a cd) (.ExceptHandler (some (.Name x np)) none (b₀ :: suite) pos :: rest)) Q E s₃) E s₂) E s₁)) (.ref e) s' := by
  obtain ⟨ob, t, he, hc, hdt⟩ := hx.there
  unfold notedBy
  refine noted_led hA he hdt rfl hx.keeps hx.new F N K (fun B h₄ T ts hB hL hBG hl hBh hst hff hsm heT hTT hts hTe hTn => ?_) hk
  have hTB : B.get? T = none := by
    cases q : B.get? T with
    | none => rfl
    | some o => have := hBh _ _ q; rw [hTn] at this; cases this
  have hen : B.get? e = none := by
    cases q : B.get? e with
    | none => rfl
    | some o => have := hBh _ _ q; rw [hx.new] at this; cases this
  have hd4 : (Obj.mapFields (·.setIfInBounds 1 (.ref T)) ob).data = .fields #[t, .ref T, c2, .none, .bool false, .none] := Obj.data_mapFields hdt _
  have hc4 : (Obj.mapFields (·.setIfInBounds 1 (.ref T)) ob).cls = .type X := (Obj.cls_mapFields _ _).trans hc
  have hsz3 : 3 < ts.size := (Array.getElem?_eq_some_iff.mp hts).1
  unfold cameBackBy
  refine wpAny_bind (wpAny_field (x := .ref T) heT hd4 rfl ?_)
  rw [if_neg (by simp)]
  simp only [show (envOf name scope L a cd).frame = some L from rfl]
  unfold setFlight
  refine wpAny_bind (wpAny_field (x := .ref T) heT hd4 rfl ?_)
  rw [if_pos (show (Value.ref T != Value.none) = true from by simp)]
  refine wpAny_setField hTT rfl hsz3 ?_
  generalize hh5 : (h₄.update T (Obj.mapFields (·.setIfInBounds 3 ((some L : Option Addr).elim Value.none fun f => rawInt f)))) = h₅
  have other : ∀ b, b ≠ T → h₅.get? b = h₄.get? b := fun b hb => by rw [← hh5]; exact Heap.get?_update_other _ _ (Ne.symm hb)
  have hT5 : h₅.get? T = some { cls := .type "traceback", dict := none, data := .fields (ts.setIfInBounds 3 (rawInt L)) } := by
    rw [← hh5, Heap.get?_update_self _ hTT rfl]; rfl
  have ht : h₅.TracedAtW B e (.type X) t (rawInt L) := ⟨_, _, T, _, ts.setIfInBounds 3 (rawInt L), (other e (Ne.symm hTe)).trans heT, ⟨hc4, rfl⟩, hd4, rfl, hTB, hTe, hT5, rfl, by simp [hsz3]⟩
  refine wpAny_noteFrame_againW (base := B) (cls := .type X) (a0 := t) rfl ht ?_
  refine caught_heldW (h := h) (B := B) (a0 := t) (news := news) hL hBG hl ⟨fun b o q => (other b fun z => by rw [z, hTB] at q; cases q).trans (hst b o q), hen, hff.of_keeps fun b o hb hnf => ⟨o, (other b fun z => by rw [z, hTT] at hb; cases hb; exact hnf _ rfl).trans hb, rfl⟩, ht⟩ (fun b o q hn => by
    obtain ⟨sl, hs⟩ := hsm b o q hn
    exact ⟨sl, (other b fun z => by rw [z, hTn] at q; cases q).trans hs⟩) F N K XB TB D T0 ex hv hn' hexc hnt hsub k hk hxk hd hE
end
end
section
/-- unorderable_list_difference: what is popped (the expected from its end), the rest of the actual, the missing -/
noncomputable def unord : List Str → List Str → List Str → List Str × List Str
  | [], as, ms => (ms, as)
  | x :: r, as, ms => if x ∈ as then unord r (as.erase x) ms else unord r as (ms ++ [x])
theorem rev_last {es : List Str} (h : 0 < es.length) : es.reverse = es.getLastD Str.empty :: es.dropLast.reverse := by
  obtain ⟨y, r, e⟩ : ∃ y r, es = r ++ [y] := ⟨es.getLast (List.ne_nil_of_length_pos h), es.dropLast, (List.dropLast_concat_getLast _).symm⟩
  subst e
  simp
local macro_rules | `(tactic| k_mem) => `(tactic| walk_at "mem")
inductive UJ (es as : List Str) (st : List (Addr × Obj)) (le la lm : Addr) (n : Nat) (m₁ : Str → Option Value) (nx : List (Addr × Obj)) : Prop
  | mk (es' as' ms' : List Str) (we wa wm : List Value) (n1 n2 n3 : Nat) (h1 : nx = (lm, listOf wm.toArray n1) :: (le, listOf we.toArray n3) :: (la, listOf wa.toArray n2) :: st) (h2 : n = es'.length) (h3 : StrsAre we es') (h4 : StrsAre wa as') (h5 : StrsAre wm ms') (h6 : unord es'.reverse as' ms' = unord es.reverse as []) (h7 : es'.length + ms'.length ≤ 60) (h8 : as'.length ≤ 60) (h9 : m₁ (Str.ofString "expected") = some (.ref le)) (h10 : m₁ (Str.ofString "actual") = some (.ref la)) (h11 : m₁ (Str.ofString "missing") = some (.ref lm)) : UJ es as st le la lm n m₁ nx
theorem c_unord {w : World} {p : Program} {loose : List Str} {mean : ExcName → Option Value} {mg mb : Str → Option Value}
  (dp un : Nat) (gd : Option (List Code)) (cn : Str) (cs : Scope) (a : Addr) (ccd : Value) (cl : List (Str × Addr)) (A₀ : Around) (base h₀ : Heap) (L : Addr) (m : Str → Option Value) (st : List (Addr × Obj)) (s : Shared)
    (Q E : Value → Shared → Prop)
    (B : Below A₀ base [] h₀) (F : Fr h₀ L s.heap m) (KX : (hd.heap_1 w.params).In h₀) (T : Top p loose mean mg mb h₀) (XB : (hd.heap_1 w.params).In base) (TB : Top p loose mean mg mb base) (hk : cs.kind = .function) (hdp : dp + 60 < recursionLimit) (hu : un + 380 < cLine)
    (le la : Addr) (ve va : List Value) (ne na : Nat) (es as : List Str)
    (N : News h₀ L s.heap ((le, listOf ve.toArray ne) :: (la, listOf va.toArray na) :: st)) (hne : la ≠ le) (hst1 : ∀ q ∈ st, q.1 ≠ le) (hst2 : ∀ q ∈ st, q.1 ≠ la)
    (he : StrsAre ve es) (ha : StrsAre va as) (hze : es.length ≤ 60) (hza : as.length ≤ 60)
    (hret : ∀ D lm wm wa n1 n2 we n3 h' tk', Fr h₀ L h' m → News h₀ L h' ((D, tupOf [.ref lm, .ref la]) :: (lm, listOf (List.toArray wm) n1) :: (le, listOf (List.toArray we) n3) :: (la, listOf (List.toArray wa) n2) :: st) → StrsAre wm (unord es.reverse as []).1 → StrsAre wa (unord es.reverse as []).2 → Q (.ref D) { s with heap := h', toks := tk' }) :
    wpAny (model Challenge.rw_il0109_01.row.prog w) (ktrTop dp un gd cn cs L a ccd cl []) (call (.ref 58) [.ref le, .ref la]) Q E s := by
  refine wpAny_call ?_
  revert KX XB; k_fill; intro KX XB
  k_dflt refine' code_turn0 (env := envX cn cs L a ccd cl) ?k1 ?k2 ?k3 ?k4 ?k5 ?kA ?kF ?kK ?k6 ?k7 ?k8 ?k9 ?kB ?_ ?c2 ?c3 ?c4 ?c5
  case kA => exact rfl
  case kF => exact rfl
  case kK => exact hk
  case k2 => exact F
  case k1 => exact B
  case k3 => exact KX
  case k4 => exact N
  case k5 => exact T
  case k6 => k_is
  case k7 => k_is
  case k8 => ktr_room
  case k9 => exact BindsTo.of_eq rfl
  case kB => exact locs rfl
  case c2 => exact rfl
  case c3 => exact rfl
  case c4 => exact rfl
  case c5 => decide
  intro g' L' h' FG' F' N' B' X' T' D'
  (repeat' first | ((with_reducible show wpAny _ _ (truthy (Value.ref _)) _ _ _); k_dflt (refine' Mine.truth_list (by first | ((exact News.isList (by k_asm) (by walk_at "mem")); done) | fail) (by walk_at "o") ?_); intro _) | ((with_reducible show wpAny _ _ (call (Value.builtin _) [Value.ref _, Value.str _ _]) _ _ _); k_dflt (refine' Mine.remove_strs (by with_unfolding_all rfl) (by k_asm) (by k_asm) (by first | (((first | assumption | exact StrsAre.nil)); done) | fail) (by first | ((k_updF); done) | fail) (by walk_at "o") (fun _ _ _ _ _ _ => ?_) (fun _ _ _ _ _ => ?_))) | ((with_reducible show wpAny _ _ (call (Value.builtin _) [Value.ref _]) _ _ _); k_dflt (refine' Mine.pop_strs (by k_asm) (by k_asm) (by first | ((k_upd); done) | fail) (by first | (((first | assumption | exact StrsAre.nil)); done) | fail) (by walk_at "o") (by walk_at "o") ?_); intro _ _ _ _) | ((with_reducible show wpAny _ _ (call (Value.builtin _) [Value.ref _, _]) _ _ _); (rename Fr _ _ _ _ => hF'); (rename News _ _ _ _ => hN'); (refine Mine.append_list hF' hN' (by k_upd) ?_ (by walk_at "len")); clear hF' hN'; intro _ _ _) | walk_at "g")
  rename Fr g' L' _ _ => F1
  rename News g' L' _ _ => N1
  rename (le < _ ∧ _) => l1
  rename_i lm h9 _
  refine while_turn (n₀ := es.length) (Kept ([envX cn cs L a ccd cl].filterMap (·.frame)) g' (ktrTop dp un gd cn cs L a ccd cl []) base [envX cn cs L a ccd cl] (hd.heap_1 w.params) p loose mean mg mb)
    (UJ es as st le la lm) ⟨KtsTurn.refl, B', X', T', D'⟩ F1 N1 ?_ ?_
  · exact ⟨es, as, [], ve, va, [], _, _, _, rfl, rfl, he, ha, .nil, rfl, by simpa using hze, hza, (by with_unfolding_all rfl), (by with_unfolding_all rfl), (by with_unfolding_all rfl)⟩
  · rintro n g m₁ nx h tk ⟨G1, G2, G3, G4, G5⟩ F2 N2 ⟨es', as', ms', we, wa, wm, n1, n2, n3, rfl, hn, hwe, hwa, hwm, hun, hz1, hz2, hm1, hm2, hm3⟩
    clear F1 N1 FG' B' X' T' D' 
    rw [mset hm1, mset hm2, mset hm3] at F2
    have hwel := hwe.length
    have hwal := hwa.length
    have hwml := hwm.length
    (repeat' first | ((with_reducible show wpAny _ _ (truthy (Value.ref _)) _ _ _); k_dflt (refine' Mine.truth_list (by first | ((exact News.isList (by k_asm) (by walk_at "mem")); done) | fail) (by walk_at "o") ?_); intro _) | ((with_reducible show wpAny _ _ (call (Value.builtin _) [Value.ref _, Value.str _ _]) _ _ _); k_dflt (refine' Mine.remove_strs (by with_unfolding_all rfl) (by k_asm) (by k_asm) (by first | (((first | assumption | exact StrsAre.nil)); done) | fail) (by first | ((k_updF); done) | fail) (by walk_at "o") (fun _ _ _ _ _ _ => ?_) (fun _ _ _ _ _ => ?_))) | ((with_reducible show wpAny _ _ (call (Value.builtin _) [Value.ref _]) _ _ _); k_dflt (refine' Mine.pop_strs (by k_asm) (by k_asm) (by first | ((k_upd); done) | fail) (by first | (((first | assumption | exact StrsAre.nil)); done) | fail) (by walk_at "o") (by walk_at "o") ?_); intro _ _ _ _) | ((with_reducible show wpAny _ _ (call (Value.builtin _) [Value.ref _, _]) _ _ _); (rename Fr _ _ _ _ => hF'); (rename News _ _ _ _ => hN'); (refine Mine.append_list hF' hN' (by k_upd) ?_ (by walk_at "len")); clear hF' hN'; intro _ _ _) | walk_at "g")
    · rename Fr g L' _ _ => F3
      rename News g L' _ _ => N3
      rename (0 < we.length) => hpos
      have hpos2 : 0 < es'.length := by rw [← hwel]; exact hpos
      have hz3 : wa.length ≤ 10000 := by rw [hwal]; exact Nat.le_trans hz2 (by decide)
      refine' Mine.remove_strs ?h0 F3 N3 hwa ?U ?z ?h1 ?h2
      case h0 => with_unfolding_all rfl
      case U => exact UpdF.tail (neN (by have := nat_lt l1.2.1; walk_at "o")) (UpdF.tail (Ne.symm hne) (UpdF.head hst2))
      case z => exact hz3
      case h1 =>
        intro hin us' hS' h' F' N'
        clear F3 N3
        (repeat' first | ((with_reducible show wpAny _ _ (truthy (Value.ref _)) _ _ _); k_dflt (refine' Mine.truth_list (by first | ((exact News.isList (by k_asm) (by walk_at "mem")); done) | fail) (by walk_at "o") ?_); intro _) | ((with_reducible show wpAny _ _ (call (Value.builtin _) [Value.ref _, Value.str _ _]) _ _ _); k_dflt (refine' Mine.remove_strs (by with_unfolding_all rfl) (by k_asm) (by k_asm) (by first | (((first | assumption | exact StrsAre.nil)); done) | fail) (by first | ((k_updF); done) | fail) (by walk_at "o") (fun _ _ _ _ _ _ => ?_) (fun _ _ _ _ _ => ?_))) | ((with_reducible show wpAny _ _ (call (Value.builtin _) [Value.ref _]) _ _ _); k_dflt (refine' Mine.pop_strs (by k_asm) (by k_asm) (by first | ((k_upd); done) | fail) (by first | (((first | assumption | exact StrsAre.nil)); done) | fail) (by walk_at "o") (by walk_at "o") ?_); intro _ _ _ _) | ((with_reducible show wpAny _ _ (call (Value.builtin _) [Value.ref _, _]) _ _ _); (rename Fr _ _ _ _ => hF'); (rename News _ _ _ _ => hN'); (refine Mine.append_list hF' hN' (by k_upd) ?_ (by walk_at "len")); clear hF' hN'; intro _ _ _) | walk_at "g")
        refine whileTurn_end ⟨G1, G2, G3, G4, G5⟩ (by assumption) (by assumption) ⟨_, n - 1, ⟨es'.dropLast, as'.erase (es'.getLastD Str.empty), ms', we.dropLast, us', wm, _, _, _, rfl, ?_, ?_, hS', hwm, ?_, ?_, ?_, (by with_unfolding_all rfl), (by with_unfolding_all rfl), (by with_unfolding_all rfl)⟩, (by walk_at "sub"), by walk_at "o"⟩
        · rw [List.length_dropLast]; walk_at "o"
        · exact (strs_last hwe hpos).elim fun y q => q.elim fun t q => q.2.2
        · rw [← hun, rev_last hpos2]
          conv => rhs; rw [unord, if_pos hin]
        · rw [List.length_dropLast]; walk_at "o"
        · exact Nat.le_trans (List.length_erase_le) hz2
      case h2 =>
        intro hin h' tk' e' X'
        k_dflt refine' caught_own0 (T' := "ValueError") X' F3 N3 G2 XB TB G5 G1 ?ex PyProof.Rows.Boot.«ValueError» ?hn PySem.F.isExc_ValueError PySem.F.notTuple_ValueError ?hs ?_
        case hs => kts_sub
        case ex => k_is
        case hn => decide
        intro h5 g5 H1 F5 N5 H2 H3 H4 H5
        clear F3 N3 G2 G3 G4 G5
        (repeat' first | ((with_reducible show wpAny _ _ (truthy (Value.ref _)) _ _ _); k_dflt (refine' Mine.truth_list (by first | ((exact News.isList (by k_asm) (by walk_at "mem")); done) | fail) (by walk_at "o") ?_); intro _) | ((with_reducible show wpAny _ _ (call (Value.builtin _) [Value.ref _, Value.str _ _]) _ _ _); k_dflt (refine' Mine.remove_strs (by with_unfolding_all rfl) (by k_asm) (by k_asm) (by first | (((first | assumption | exact StrsAre.nil)); done) | fail) (by first | ((k_updF); done) | fail) (by walk_at "o") (fun _ _ _ _ _ _ => ?_) (fun _ _ _ _ _ => ?_))) | ((with_reducible show wpAny _ _ (call (Value.builtin _) [Value.ref _]) _ _ _); k_dflt (refine' Mine.pop_strs (by k_asm) (by k_asm) (by first | ((k_upd); done) | fail) (by first | (((first | assumption | exact StrsAre.nil)); done) | fail) (by walk_at "o") (by walk_at "o") ?_); intro _ _ _ _) | ((with_reducible show wpAny _ _ (call (Value.builtin _) [Value.ref _, _]) _ _ _); (rename Fr _ _ _ _ => hF'); (rename News _ _ _ _ => hN'); (refine Mine.append_list hF' hN' (by k_upd) ?_ (by walk_at "len")); clear hF' hN'; intro _ _ _) | walk_at "g")
        refine whileTurn_end ⟨H1, H2, H3, H4, H5⟩ (by assumption) (by assumption) ⟨_, n - 1, ⟨es'.dropLast, as', ms' ++ [es'.getLastD Str.empty], we.dropLast, wa, wm ++ [_], _, _, _, rfl, ?_, ?_, hwa, hwm.append' (.cons _ _ .nil), ?_, ?_, hz2, (by with_unfolding_all rfl), (by with_unfolding_all rfl), (by with_unfolding_all rfl)⟩, (by walk_at "sub"), by walk_at "o"⟩
        · rw [List.length_dropLast]; walk_at "o"
        · exact (strs_last hwe hpos).elim fun y q => q.elim fun t q => q.2.2
        · rw [← hun, rev_last hpos2]
          conv => rhs; rw [unord, if_neg hin]
        · rw [List.length_dropLast, List.length_append]
          simp only [List.length_cons, List.length_nil]
          walk_at "o"
    · rename (¬ 0 < we.length) => hpos
      rename Fr h₀ _ _ _ => kF
      rename News h₀ _ _ _ => kN
      have e0 : es' = [] := List.eq_nil_of_length_eq_zero (by walk_at "o")
      subst e0
      rw [List.reverse_nil, unord] at hun
      refine hret _ _ _ _ _ _ _ _ _ _ kF (news_sub kN (by walk_at "sub")) ?_ ?_
      · rw [← hun]; exact hwm
      · rw [← hun]; exact hwa
end
section
local macro_rules | `(tactic| k_mem) => `(tactic| walk_at "mem")
/-- sorted_list_difference, of what is left of both -/
noncomputable def sld : List Str → List Str → List Str × List Str
  | [], as => ([], as)
  | e :: es, [] => (e :: es, [])
  | e :: es, a :: as =>
    if ltS e a = true then (e :: (sld (es.dropWhile (· == e)) (a :: as)).1, (sld (es.dropWhile (· == e)) (a :: as)).2)
    else if ltS a e = true then ((sld (e :: es) (as.dropWhile (· == a))).1, a :: (sld (e :: es) (as.dropWhile (· == a))).2)
    else sld (es.dropWhile (· == e)) (as.dropWhile (· == a))
termination_by es as => es.length + as.length
decreasing_by
  all_goals simp only [List.length_cons]
  · have := (List.dropWhile_sublist (fun x => x == e) (l := es)).length_le; walk_at "o"
  · have := (List.dropWhile_sublist (fun x => x == a) (l := as)).length_le; walk_at "o"
  · have := (List.dropWhile_sublist (fun x => x == e) (l := es)).length_le
    have := (List.dropWhile_sublist (fun x => x == a) (l := as)).length_le
    walk_at "o"
theorem t_dec {a b q : Nat} (h : q = b - a) (h2 : a < b) : b - (a + 1) < q := by rw [h]; exact Nat.sub_succ_lt_self _ _ h2
theorem t_decB {n e a i j i2 j2 : Nat} (h : n = (e - i) + (a - j)) (h1 : i + 1 ≤ i2) (h2 : i2 < e) (h3 : j + 1 ≤ j2) (h4 : j2 < a) : (e - i2) + (a - j2) < n := by
  rw [h]; exact Nat.add_lt_add (Nat.sub_lt_sub_left (Nat.lt_trans h1 h2) h1) (Nat.sub_lt_sub_left (Nat.lt_trans h3 h4) h3)
theorem t_decL {n e a i j i2 : Nat} (h : n = (e - i) + (a - j)) (h1 : i + 1 ≤ i2) (h2 : i2 < e) : (e - i2) + (a - j) < n := by
  rw [h]; exact Nat.add_lt_add_right (Nat.sub_lt_sub_left (Nat.lt_trans h1 h2) h1) _
theorem t_decR {n e a i j j2 : Nat} (h : n = (e - i) + (a - j)) (h3 : j + 1 ≤ j2) (h4 : j2 < a) : (e - i) + (a - j2) < n := by
  rw [h]; exact Nat.add_lt_add_left (Nat.sub_lt_sub_left (Nat.lt_trans h3 h4) h3) _
theorem sld_end {x y : List Str} (h : x = [] ∨ y = []) : sld x y = (x, y) := by
  rcases h with rfl | rfl
  · rw [sld]
  · cases x with
    | nil => rw [sld]
    | cons a r => rw [sld]
theorem drop_at {l : List Str} {i : Nat} (h : i < l.length) : l.drop i = l.getD i Str.empty :: l.drop (i + 1) := by
  rw [List.drop_eq_getElem_cons h, List.getD_eq_getElem?_getD, List.getElem?_eq_getElem h]
  rfl
theorem skip_on {l : List Str} {i k : Nat} {e : Str} (h : (l.drop i).dropWhile (· == e) = (l.drop k).dropWhile (· == e)) (hi : i < l.length) (he : (l.getD i Str.empty == e) = true) : (l.drop (i + 1)).dropWhile (· == e) = (l.drop k).dropWhile (· == e) := by
  rw [← h, drop_at hi, List.dropWhile_cons, if_pos he]
theorem skip_off {l : List Str} {i k : Nat} {e : Str} (h : (l.drop i).dropWhile (· == e) = (l.drop k).dropWhile (· == e)) (hi : i < l.length) (he : ¬ (l.getD i Str.empty == e) = true) : (l.drop k).dropWhile (· == e) = l.drop i := by
  rw [← h, drop_at hi, List.dropWhile_cons, if_neg he]
theorem skip_end {l : List Str} {i k : Nat} {e : Str} (h : (l.drop i).dropWhile (· == e) = (l.drop k).dropWhile (· == e)) (hi : l.length ≤ i) : (l.drop k).dropWhile (· == e) = l.drop i := by
  rw [← h, List.drop_of_length_le hi]
  rfl
theorem sld_lt {es as ms us : List Str} {i j k : Nat} {r : List Str × List Str} (hs : r = (ms ++ (sld (es.drop i) (as.drop j)).1, us ++ (sld (es.drop i) (as.drop j)).2)) (hi : i < es.length) (hj : j < as.length) (hlt : ltS (es.getD i Str.empty) (as.getD j Str.empty) = true) (hd : (es.drop (i + 1)).dropWhile (· == es.getD i Str.empty) = es.drop k) :
    r = ((ms ++ [es.getD i Str.empty]) ++ (sld (es.drop k) (as.drop j)).1, us ++ (sld (es.drop k) (as.drop j)).2) := by
  rw [hs, ← hd, drop_at hi, drop_at hj, sld, if_pos hlt]
  simp
theorem sld_gt {es as ms us : List Str} {i j k : Nat} {r : List Str × List Str} (hs : r = (ms ++ (sld (es.drop i) (as.drop j)).1, us ++ (sld (es.drop i) (as.drop j)).2)) (hi : i < es.length) (hj : j < as.length) (hlt : ¬ ltS (es.getD i Str.empty) (as.getD j Str.empty) = true) (hgt : ltS (as.getD j Str.empty) (es.getD i Str.empty) = true) (hd : (as.drop (j + 1)).dropWhile (· == as.getD j Str.empty) = as.drop k) :
    r = (ms ++ (sld (es.drop i) (as.drop k)).1, (us ++ [as.getD j Str.empty]) ++ (sld (es.drop i) (as.drop k)).2) := by
  rw [hs, ← hd, drop_at hi, drop_at hj, sld, if_neg hlt, if_pos hgt]
  simp
theorem sld_eq {es as ms us : List Str} {i j k q : Nat} {r : List Str × List Str} (hs : r = (ms ++ (sld (es.drop i) (as.drop j)).1, us ++ (sld (es.drop i) (as.drop j)).2)) (hi : i < es.length) (hj : j < as.length) (hlt : ¬ ltS (es.getD i Str.empty) (as.getD j Str.empty) = true) (hgt : ¬ ltS (as.getD j Str.empty) (es.getD i Str.empty) = true) (hd : (es.drop (i + 1)).dropWhile (· == es.getD i Str.empty) = es.drop k) (hd2 : (as.drop (j + 1)).dropWhile (· == as.getD j Str.empty) = as.drop q) :
    r = (ms ++ (sld (es.drop k) (as.drop q)).1, us ++ (sld (es.drop k) (as.drop q)).2) := by
  rw [hs, ← hd, ← hd2, drop_at hi, drop_at hj, sld, if_neg hlt, if_neg hgt]
/-- a fact that no line is to look at -/
structure Hid (P : Prop) : Prop where
  out : P
theorem hold_QE {α : Type} {prog : Program} {w : World} {A : Around} {tree : Sem α} {Q : α → Shared → Prop} {E : Value → Shared → Prop} {s : Shared} (h : ∀ Q9 E9, Hid (Q9 = Q) → Hid (E9 = E) → wpAny (model prog w) A tree Q9 E9 s) : wpAny (model prog w) A tree Q E s := h Q E ⟨rfl⟩ ⟨rfl⟩
theorem hold_exec {prog : Program} {w : World} {A : Around} {env : Env} {st : Stmt} {Q : Flow → Shared → Prop} {E : Value → Shared → Prop} {s : Shared} (hE : PassesOwn (model prog w) A env E) (h : ∀ Q9 E9, Hid (Q9 = Q) → Hid (E9 = E) → PassesOwn (model prog w) A env E9 → wpAny (model prog w) A (exec st env) Q9 E9 s) : wpAny (model prog w) A (exec st env) Q E s := h Q E ⟨rfl⟩ ⟨rfl⟩ hE
theorem hold_execs {prog : Program} {w : World} {A : Around} {env : Env} {st : List Stmt} {Q : Flow → Shared → Prop} {E : Value → Shared → Prop} {s : Shared} (hE : PassesOwn (model prog w) A env E) (h : ∀ Q9 E9, Hid (Q9 = Q) → Hid (E9 = E) → PassesOwn (model prog w) A env E9 → wpAny (model prog w) A (execs st env) Q9 E9 s) : wpAny (model prog w) A (execs st env) Q E s := h Q E ⟨rfl⟩ ⟨rfl⟩ hE
theorem key_of {prog : Program} {w : World} {A : Around} {env : Env} {x : Str} {np pos : Pos} {b₀ : Stmt} {suite : List Stmt} {rest : List ExceptHandler} {Q : Flow → Shared → Prop} {E E9 : Value → Shared → Prop}
    (_ : Hid (E9 = fun e s₁ => wpAny (model prog w) A (noteFrame e env) (fun _ s₂ => wpAny (model prog w) A (setFlight e none) (fun _ s₃ => wpAny (model prog w) A (handleBy e env (.ExceptHandler (some (.Name x np)) none (b₀ :: suite) pos :: rest)) Q E s₃) E s₂) E s₁))
    (R : Addr → Shared → Prop) (key : ∀ e s, R e s → wpAny (model prog w) (A.mark (some (.ref e))) (execs (b₀ :: suite) env) Q E s) {G : Prop}
    (main : Hid (∀ e s, R e s → wpAny (model prog w) (A.mark (some (.ref e))) (execs (b₀ :: suite) env) Q E s) → G) : G := main ⟨key⟩
/-- what holds between the turns of the loop -/
inductive SJ (es as : List Str) (ve va : List Value) (ne na : Nat) (st : List (Addr × Obj)) (le la lm lu : Addr) (n : Nat) (m₁ : Str → Option Value) (nx : List (Addr × Obj)) : Prop
  | mk (i j : Nat) (ti tj : Tok) (ms us : List Str) (wm wu : List Value) (n1 n2 : Nat) (h1 : nx = (lu, listOf wu.toArray n2) :: (lm, listOf wm.toArray n1) :: (le, listOf ve.toArray ne) :: (la, listOf va.toArray na) :: st) (h2 : n = (es.length - i) + (as.length - j)) (h3 : i ≤ es.length) (h4 : j ≤ as.length) (h5 : StrsAre wm ms) (h6 : StrsAre wu us) (h7 : sld es as = (ms ++ (sld (es.drop i) (as.drop j)).1, us ++ (sld (es.drop i) (as.drop j)).2)) (h8 : ms.length ≤ i) (h9 : us.length ≤ j) (h10 : m₁ (Str.ofString "expected") = some (.ref le)) (h11 : m₁ (Str.ofString "actual") = some (.ref la)) (h12 : m₁ (Str.ofString "i") = some (.int (i : Int) ti)) (h13 : m₁ (Str.ofString "j") = some (.int (j : Int) tj)) (h14 : m₁ (Str.ofString "missing") = some (.ref lm)) (h15 : m₁ (Str.ofString "unexpected") = some (.ref lu)) : SJ es as ve va ne na st le la lm lu n m₁ nx
/-- what holds when the handler is entered -/
inductive SR (w : World) (p : Program) (loose : List Str) (mean : ExcName → Option Value) (mg mb : Str → Option Value) (dp un : Nat) (gd : Option (List Code)) (cn : Str) (cs : Scope) (L a : Addr) (ccd : Value) (cl : List (Str × Addr)) (base : Heap) (s : Shared) (es as : List Str) (ve va : List Value) (ne na : Nat) (st : List (Addr × Obj)) (le la lm lu : Addr) (g' : Heap) (L' : Addr) (s5 : Shared) : Prop
  | mk (h5 g5 : Heap) (tk5 : Nat) (m5 : Str → Option Value) (i j : Nat) (ti tj : Tok) (ms us : List Str) (wm wu : List Value) (n1 n2 : Nat) (h1 : s5 = { s with heap := h5, toks := tk5 }) (h2 : KtsTurn (List.filterMap (fun x => x.frame) [envX cn cs L a ccd cl]) g' g5) (h3 : Fr g5 L' h5 m5) (h4 : News g5 L' h5 ((lu, listOf wu.toArray n2) :: (lm, listOf wm.toArray n1) :: (le, listOf ve.toArray ne) :: (la, listOf va.toArray na) :: st)) (h5 : Below (ktrTop dp un gd cn cs L a ccd cl []) base [envX cn cs L a ccd cl] g5) (h6 : (hd.heap_1 w.params).In g5) (h7 : Top p loose mean mg mb g5) (h8 : KtsDicts (List.filterMap (fun x => x.frame) [envX cn cs L a ccd cl]) g5) (h9 : i ≤ es.length) (h10 : j ≤ as.length) (h11 : StrsAre wm ms) (h12 : StrsAre wu us) (h13 : sld es as = (ms ++ es.drop i, us ++ as.drop j)) (h14 : ms.length ≤ i) (h15 : us.length ≤ j) (h16 : m5 (Str.ofString "expected") = some (.ref le)) (h17 : m5 (Str.ofString "actual") = some (.ref la)) (h18 : m5 (Str.ofString "i") = some (.int (i : Int) ti)) (h19 : m5 (Str.ofString "j") = some (.int (j : Int) tj)) (h20 : m5 (Str.ofString "missing") = some (.ref lm)) (h21 : m5 (Str.ofString "unexpected") = some (.ref lu)) : SR w p loose mean mg mb dp un gd cn cs L a ccd cl base s es as ve va ne na st le la lm lu g' L' s5
/-- what holds between the turns of an inner loop, over the list xs from the place k on -/
inductive SK (xs : List Str) (k : Nat) (nx0 : List (Addr × Obj)) (ki kl ke : Str) (ll : Addr) (o1 o2 o3 o4 : Str) (w1 w2 w3 w4 : Value) (X : (Str → Option Value) → Prop) (q : Nat) (m : Str → Option Value) (ny : List (Addr × Obj)) : Prop
  | mk (i2 : Nat) (t2 : Tok) (h1 : ny = nx0) (h2 : q = xs.length - i2) (h3 : k + 1 ≤ i2) (h4 : i2 ≤ xs.length) (h5 : (xs.drop i2).dropWhile (· == xs.getD k Str.empty) = (xs.drop (k + 1)).dropWhile (· == xs.getD k Str.empty))
    (h6 : m ki = some (.int (i2 : Int) t2)) (h7 : m kl = some (.ref ll)) (te : Tok) (h8 : m ke = some (.str (xs.getD k Str.empty) te)) (h9 : m o1 = some w1) (h10 : m o2 = some w2) (h11 : m o3 = some w3) (h12 : m o4 = some w4) (hX : X m) : SK xs k nx0 ki kl ke ll o1 o2 o3 o4 w1 w2 w3 w4 X q m ny
theorem c_sorted {w : World} {p : Program} {loose : List Str} {mean : ExcName → Option Value} {mg mb : Str → Option Value}
  (dp un : Nat) (gd : Option (List Code)) (cn : Str) (cs : Scope) (a : Addr) (ccd : Value) (cl : List (Str × Addr)) (A₀ : Around) (base h₀ : Heap) (L : Addr) (m : Str → Option Value) (st : List (Addr × Obj)) (s : Shared)
    (Q E : Value → Shared → Prop)
    (B : Below A₀ base [] h₀) (F : Fr h₀ L s.heap m) (KX : (hd.heap_1 w.params).In h₀) (T : Top p loose mean mg mb h₀) (XB : (hd.heap_1 w.params).In base) (TB : Top p loose mean mg mb base) (hk : cs.kind = .function) (hdp : dp + 60 < recursionLimit) (hu : un + 380 < cLine)
    (le la : Addr) (ve va : List Value) (ne na : Nat) (es as : List Str)
    (N : News h₀ L s.heap ((le, listOf ve.toArray ne) :: (la, listOf va.toArray na) :: st))
    (he : StrsAre ve es) (ha : StrsAre va as) (hze : es.length ≤ 60) (hza : as.length ≤ 60)
    (hret : ∀ D lm lu wm wu n1 n2 h' tk', Fr h₀ L h' m → News h₀ L h' ((D, tupOf [.ref lm, .ref lu]) :: (lm, listOf (List.toArray wm) n1) :: (lu, listOf (List.toArray wu) n2) :: (le, listOf ve.toArray ne) :: (la, listOf va.toArray na) :: st) → StrsAre wm (sld es as).1 → StrsAre wu (sld es as).2 → Q (.ref D) { s with heap := h', toks := tk' }) :
    wpAny (model Challenge.rw_il0109_01.row.prog w) (ktrTop dp un gd cn cs L a ccd cl []) (call (.ref 51) [.ref le, .ref la]) Q E s := by
  refine wpAny_call ?_
  revert KX XB; k_fill; intro KX XB
  k_dflt refine' code_turn0 (env := envX cn cs L a ccd cl) ?k1 ?k2 ?k3 ?k4 ?k5 ?kA ?kF ?kK ?k6 ?k7 ?k8 ?k9 ?kB ?_ ?c2 ?c3 ?c4 ?c5
  case kA => exact rfl
  case kF => exact rfl
  case kK => exact hk
  case k2 => exact F
  case k1 => exact B
  case k3 => exact KX
  case k4 => exact N
  case k5 => exact T
  case k6 => k_is
  case k7 => k_is
  case k8 => ktr_room
  case k9 => exact BindsTo.of_eq rfl
  case kB => exact locs rfl
  case c2 => exact rfl
  case c3 => exact rfl
  case c4 => exact rfl
  case c5 => decide
  intro g' L' h' FG' F' N' B' X' T' D'
  have hel := he.length
  have hal := ha.length
  (repeat' first | ((with_reducible show wpAny _ _ (call (Value.builtin _) [Value.ref _, Value.ref _]) _ _ _); k_dflt (refine' Mine.extend_own (by k_asm) (by k_asm) (by first | ((walk_at "mem"); done) | fail) (by first | ((k_updF); done) | fail) ?_ (by first | ((walk_at "len"); done) | fail) (by first | ((walk_at "len"); done) | fail)); intro _ _ _ _) | (((with_reducible show wpAny _ _ (subscriptTail _ (PySem.Expr.Slice (some _) none none _) (Value.ref _) (Value.ref _)) _ _ _); (rename Fr _ _ _ _ => hF'); (rename News _ _ _ _ => hN'); k_dflt (refine' Mine.slice_at hF' hN' (by first | ((walk_at "mem"); done) | fail) (by exact IsPart.int _ _) (by exact IsPart.none) (by first | ((exact Mine.pick_from' _ (by walk_at "o")); done) | fail) ?_ (by with_unfolding_all rfl) (by first | ((kmk_pure); done) | fail) (by walk_at "o")); clear hF' hN'; intro _ _ _ _ l1; (try k_lt l1)); (try (revert l1; intro _))) | ((with_reducible show wpAny _ _ (subscriptTail _ _ (Value.ref _) (Value.int _ _)) _ _ _); (rename News _ _ _ _ => hN'); k_dflt (refine' Mine.item_noneC (by exact rfl) (by first | ((exact (hN' _ (by assumption)).1); done) | fail) (by assumption) (by exact rfl) (by first | ((exact News.isList hN' (by walk_at "mem")); done) | fail) (by first | (((first | assumption | exact StrsAre.nil | exact Mine.strsDrop _ (by assumption))); done) | fail) (by walk_at "o") (by walk_at "o") (by walk_at "o") ?_); intro _ _ _ _) | ((with_reducible show wpAny _ _ (subscriptTail _ _ (Value.ref _) (Value.int _ _)) _ _ _); k_dflt (refine' Mine.item_none (by with_unfolding_all rfl) (by first | ((exact News.isList (by k_asm) (by walk_at "mem")); done) | fail) (by first | (((first | assumption | exact StrsAre.nil | exact Mine.strsDrop _ (by assumption))); done) | fail) (by walk_at "o") (by walk_at "o") (by walk_at "o") ?_); intro _ _ _ _) | ((with_reducible show wpAny _ _ (subscriptTail _ _ (Value.ref _) (Value.int _ _)) _ _ _); k_dflt (refine' Mine.item_strsZ (by first | ((exact News.isList (by k_asm) (by walk_at "mem")); done) | fail) (by first | (((first | assumption | exact StrsAre.nil | exact Mine.strsDrop _ (by assumption))); done) | fail) (by walk_at "o") (by walk_at "o") (by walk_at "o") ?_); intro _) | ((with_reducible show wpAny _ _ (call (Value.builtin _) [Value.ref _, _]) _ _ _); (rename Fr _ _ _ _ => hF'); (rename News _ _ _ _ => hN'); (refine Mine.append_list hF' hN' (by k_upd) ?_ (by walk_at "len")); clear hF' hN'; intro _ _ _) | walk_at "g")
  rename Fr g' L' _ _ => F1
  rename News g' L' _ _ => N1
  rename_i h51 lm h52 la1 h53 h54 lu h55 la2 h56
  refine While_inv2 (n₀ := es.length + as.length) (SJ es as ve va ne na st le la lm lu) F1 N1 ?_ ?_
  · exact ⟨0, 0, _, _, [], [], [], [], _, _, rfl, rfl, Nat.zero_le _, Nat.zero_le _, .nil, .nil, rfl, Nat.zero_le _, Nat.zero_le _, (by with_unfolding_all first | rfl | assumption), (by with_unfolding_all first | rfl | assumption), (by with_unfolding_all first | rfl | assumption), (by with_unfolding_all first | rfl | assumption), (by with_unfolding_all first | rfl | assumption), (by with_unfolding_all first | rfl | assumption)⟩
  clear F1 N1
  rintro n m₁ nx h tk F2 N2 ⟨i, j, ti, tj, ms, us, wm, wu, n1, n2, rfl, hn, hi, hj, hwm, hwu, hsl, hz1, hz2, hm1, hm2, hm3, hm4, hm5, hm6⟩
  rw [mset hm1, mset hm2, mset hm3, mset hm4, mset hm5, mset hm6] at F2
  have hwml := hwm.length
  have hwul := hwu.length
  (repeat' (
  (fail_if_success (with_reducible show wpAny _ _ (exec (Stmt.Try _ _ _ _ _) _) _ _ _));
  (first | (k_unfold; (try dsimp only)) | (k_end; wrow_close) | ((with_reducible show wpAny _ _ (call (Value.builtin _) [Value.ref _, Value.ref _]) _ _ _); k_dflt (refine' Mine.extend_own (by k_asm) (by k_asm) (by first | ((walk_at "mem"); done) | fail) (by first | ((k_updF); done) | fail) ?_ (by first | ((walk_at "len"); done) | fail) (by first | ((walk_at "len"); done) | fail)); intro _ _ _ _) | (((with_reducible show wpAny _ _ (subscriptTail _ (PySem.Expr.Slice (some _) none none _) (Value.ref _) (Value.ref _)) _ _ _); (rename Fr _ _ _ _ => hF'); (rename News _ _ _ _ => hN'); k_dflt (refine' Mine.slice_at hF' hN' (by first | ((walk_at "mem"); done) | fail) (by exact IsPart.int _ _) (by exact IsPart.none) (by first | ((exact Mine.pick_from' _ (by walk_at "o")); done) | fail) ?_ (by with_unfolding_all rfl) (by first | ((kmk_pure); done) | fail) (by walk_at "o")); clear hF' hN'; intro _ _ _ _ l1; (try k_lt l1)); (try (revert l1; intro _))) | ((with_reducible show wpAny _ _ (subscriptTail _ _ (Value.ref _) (Value.int _ _)) _ _ _); (rename News _ _ _ _ => hN'); k_dflt (refine' Mine.item_noneC (by exact rfl) (by first | ((exact (hN' _ (by assumption)).1); done) | fail) (by assumption) (by exact rfl) (by first | ((exact News.isList hN' (by walk_at "mem")); done) | fail) (by first | (((first | assumption | exact StrsAre.nil | exact Mine.strsDrop _ (by assumption))); done) | fail) (by walk_at "o") (by walk_at "o") (by walk_at "o") ?_); intro _ _ _ _) | ((with_reducible show wpAny _ _ (subscriptTail _ _ (Value.ref _) (Value.int _ _)) _ _ _); k_dflt (refine' Mine.item_none (by with_unfolding_all rfl) (by first | ((exact News.isList (by k_asm) (by walk_at "mem")); done) | fail) (by first | (((first | assumption | exact StrsAre.nil | exact Mine.strsDrop _ (by assumption))); done) | fail) (by walk_at "o") (by walk_at "o") (by walk_at "o") ?_); intro _ _ _ _) | ((with_reducible show wpAny _ _ (subscriptTail _ _ (Value.ref _) (Value.int _ _)) _ _ _); k_dflt (refine' Mine.item_strsZ (by first | ((exact News.isList (by k_asm) (by walk_at "mem")); done) | fail) (by first | (((first | assumption | exact StrsAre.nil | exact Mine.strsDrop _ (by assumption))); done) | fail) (by walk_at "o") (by walk_at "o") (by walk_at "o") ?_); intro _) | ((with_reducible show wpAny _ _ (call (Value.builtin _) [Value.ref _, _]) _ _ _); (rename Fr _ _ _ _ => hF'); (rename News _ _ _ _ => hN'); (refine Mine.append_list hF' hN' (by k_upd) ?_ (by walk_at "len")); clear hF' hN'; intro _ _ _) | walk1 | (dsimp only; walk1) | (leave1; walk_say "STEP leave1"; try dsimp only))))
  refine wpAny_Try_except ?_
  refine hold_execs (by passes_own) ?_
  intro Q9 E9 HQ HE PE9
  refine key_of HE (fun (_ : Addr) => SR w p loose mean mg mb dp un gd cn cs L a ccd cl base s es as ve va ne na st le la lm lu g' L') ?_ ?_
  · clear HQ HE F2 N2 hm1 hm2 hm3 hm4 hm5 hm6 hsl hn hi hj hwm hwu hz1 hz2 hwml hwul
    rintro e9 s5 ⟨h5, g5, tk5, m5, i, j, ti, tj, ms, us, wm, wu, n1, n2, rfl, H1, F5, N5, H2, H3, H4, H5, hi, hj, hwm, hwu, hfin, hz1, hz2, hm1, hm2, hm3, hm4, hm5, hm6⟩
    rw [mset hm1, mset hm2, mset hm3, mset hm4, mset hm5, mset hm6] at F5
    have hwml := hwm.length
    have hwul := hwu.length
    refine hold_QE ?_
    intro Q8 E8 HQ HE
    (repeat' first | ((with_reducible show wpAny _ _ (call (Value.builtin _) [Value.ref _, Value.ref _]) _ _ _); k_dflt (refine' Mine.extend_own (by k_asm) (by k_asm) (by first | ((walk_at "mem"); done) | fail) (by first | ((k_updF); done) | fail) ?_ (by first | ((walk_at "len"); done) | fail) (by first | ((walk_at "len"); done) | fail)); intro _ _ _ _) | (((with_reducible show wpAny _ _ (subscriptTail _ (PySem.Expr.Slice (some _) none none _) (Value.ref _) (Value.ref _)) _ _ _); (rename Fr _ _ _ _ => hF'); (rename News _ _ _ _ => hN'); k_dflt (refine' Mine.slice_at hF' hN' (by first | ((walk_at "mem"); done) | fail) (by exact IsPart.int _ _) (by exact IsPart.none) (by first | ((exact Mine.pick_from' _ (by walk_at "o")); done) | fail) ?_ (by with_unfolding_all rfl) (by first | ((kmk_pure); done) | fail) (by walk_at "o")); clear hF' hN'; intro _ _ _ _ l1; (try k_lt l1)); (try (revert l1; intro _))) | ((with_reducible show wpAny _ _ (subscriptTail _ _ (Value.ref _) (Value.int _ _)) _ _ _); (rename News _ _ _ _ => hN'); k_dflt (refine' Mine.item_noneC (by exact rfl) (by first | ((exact (hN' _ (by assumption)).1); done) | fail) (by assumption) (by exact rfl) (by first | ((exact News.isList hN' (by walk_at "mem")); done) | fail) (by first | (((first | assumption | exact StrsAre.nil | exact Mine.strsDrop _ (by assumption))); done) | fail) (by walk_at "o") (by walk_at "o") (by walk_at "o") ?_); intro _ _ _ _) | ((with_reducible show wpAny _ _ (subscriptTail _ _ (Value.ref _) (Value.int _ _)) _ _ _); k_dflt (refine' Mine.item_none (by with_unfolding_all rfl) (by first | ((exact News.isList (by k_asm) (by walk_at "mem")); done) | fail) (by first | (((first | assumption | exact StrsAre.nil | exact Mine.strsDrop _ (by assumption))); done) | fail) (by walk_at "o") (by walk_at "o") (by walk_at "o") ?_); intro _ _ _ _) | ((with_reducible show wpAny _ _ (subscriptTail _ _ (Value.ref _) (Value.int _ _)) _ _ _); k_dflt (refine' Mine.item_strsZ (by first | ((exact News.isList (by k_asm) (by walk_at "mem")); done) | fail) (by first | (((first | assumption | exact StrsAre.nil | exact Mine.strsDrop _ (by assumption))); done) | fail) (by walk_at "o") (by walk_at "o") (by walk_at "o") ?_); intro _) | ((with_reducible show wpAny _ _ (call (Value.builtin _) [Value.ref _, _]) _ _ _); (rename Fr _ _ _ _ => hF'); (rename News _ _ _ _ => hN'); (refine Mine.append_list hF' hN' (by k_upd) ?_ (by walk_at "len")); clear hF' hN'; intro _ _ _) | walk_at "g")
    rw [HQ.out]
    dsimp only [WhileStep2]
    (repeat' first | ((with_reducible show wpAny _ _ (call (Value.builtin _) [Value.ref _, Value.ref _]) _ _ _); k_dflt (refine' Mine.extend_own (by k_asm) (by k_asm) (by first | ((walk_at "mem"); done) | fail) (by first | ((k_updF); done) | fail) ?_ (by first | ((walk_at "len"); done) | fail) (by first | ((walk_at "len"); done) | fail)); intro _ _ _ _) | (((with_reducible show wpAny _ _ (subscriptTail _ (PySem.Expr.Slice (some _) none none _) (Value.ref _) (Value.ref _)) _ _ _); (rename Fr _ _ _ _ => hF'); (rename News _ _ _ _ => hN'); k_dflt (refine' Mine.slice_at hF' hN' (by first | ((walk_at "mem"); done) | fail) (by exact IsPart.int _ _) (by exact IsPart.none) (by first | ((exact Mine.pick_from' _ (by walk_at "o")); done) | fail) ?_ (by with_unfolding_all rfl) (by first | ((kmk_pure); done) | fail) (by walk_at "o")); clear hF' hN'; intro _ _ _ _ l1; (try k_lt l1)); (try (revert l1; intro _))) | ((with_reducible show wpAny _ _ (subscriptTail _ _ (Value.ref _) (Value.int _ _)) _ _ _); (rename News _ _ _ _ => hN'); k_dflt (refine' Mine.item_noneC (by exact rfl) (by first | ((exact (hN' _ (by assumption)).1); done) | fail) (by assumption) (by exact rfl) (by first | ((exact News.isList hN' (by walk_at "mem")); done) | fail) (by first | (((first | assumption | exact StrsAre.nil | exact Mine.strsDrop _ (by assumption))); done) | fail) (by walk_at "o") (by walk_at "o") (by walk_at "o") ?_); intro _ _ _ _) | ((with_reducible show wpAny _ _ (subscriptTail _ _ (Value.ref _) (Value.int _ _)) _ _ _); k_dflt (refine' Mine.item_none (by with_unfolding_all rfl) (by first | ((exact News.isList (by k_asm) (by walk_at "mem")); done) | fail) (by first | (((first | assumption | exact StrsAre.nil | exact Mine.strsDrop _ (by assumption))); done) | fail) (by walk_at "o") (by walk_at "o") (by walk_at "o") ?_); intro _ _ _ _) | ((with_reducible show wpAny _ _ (subscriptTail _ _ (Value.ref _) (Value.int _ _)) _ _ _); k_dflt (refine' Mine.item_strsZ (by first | ((exact News.isList (by k_asm) (by walk_at "mem")); done) | fail) (by first | (((first | assumption | exact StrsAre.nil | exact Mine.strsDrop _ (by assumption))); done) | fail) (by walk_at "o") (by walk_at "o") (by walk_at "o") ?_); intro _) | ((with_reducible show wpAny _ _ (call (Value.builtin _) [Value.ref _, _]) _ _ _); (rename Fr _ _ _ _ => hF'); (rename News _ _ _ _ => hN'); (refine Mine.append_list hF' hN' (by k_upd) ?_ (by walk_at "len")); clear hF' hN'; intro _ _ _) | walk_at "g")
    rename Fr h₀ _ _ _ => kF
    rename News h₀ _ _ _ => kN
    refine hret _ _ _ _ _ _ _ _ _ kF (news_sub kN (by walk_at "sub")) ?_ ?_
    · rw [hfin]
      exact hwm.append' (strsDrop _ he)
    · rw [hfin]
      exact hwu.append' (strsDrop _ ha)
  intro key
  have hx : ∀ (h1 : Heap) (m1 : Str → Option Value) (i j : Nat) (ti tj : Tok) (ms us : List Str) (wm wu : List Value) (n1 n2 tk1 : Nat) (hh : Heap) (e : Addr), Fr g' L' h1 m1 → News g' L' h1 ((lu, listOf wu.toArray n2) :: (lm, listOf wm.toArray n1) :: (le, listOf ve.toArray ne) :: (la, listOf va.toArray na) :: st) → i ≤ es.length → j ≤ as.length → StrsAre wm ms → StrsAre wu us → sld es as = (ms ++ es.drop i, us ++ as.drop j) → ms.length ≤ i → us.length ≤ j → m1 (Str.ofString "expected") = some (.ref le) → m1 (Str.ofString "actual") = some (.ref la) → m1 (Str.ofString "i") = some (.int (i : Int) ti) → m1 (Str.ofString "j") = some (.int (j : Int) tj) → m1 (Str.ofString "missing") = some (.ref lm) → m1 (Str.ofString "unexpected") = some (.ref lu) → Heap.NewExc h1 hh e "IndexError" → E9 (.ref e) { s with heap := hh, toks := tk1 } := by
    clear F2 N2 HQ hm1 hm2 hm3 hm4 hm5 hm6 hsl hn hi hj hwm hwu hz1 hz2 hwml hwul
    intro h1 m1 i j ti tj ms us wm wu n1 n2 tk1 hh e F N hi hj hwm hwu hfin hz1 hz2 hm1 hm2 hm3 hm4 hm5 hm6 hx
    rw [HE.out]
    refine caught_own0 (T' := "IndexError") hx F N B' (by assumption) (by assumption) D' KtsTurn.refl (by k_is) PyProof.Rows.Boot.«IndexError» (by decide) PySem.F.isExc_IndexError PySem.F.notTuple_IndexError (by kts_sub) ?_
    intro h5 g5 H1 F5 N5 H2 H3 H4 H5
    exact key.out _ _ ⟨h5, g5, tk1, m1, i, j, ti, tj, ms, us, wm, wu, n1, n2, rfl, H1, F5, N5, H2, H3, H4, H5, hi, hj, hwm, hwu, hfin, hz1, hz2, hm1, hm2, hm3, hm4, hm5, hm6⟩
  by_cases hil : i < es.length
  · by_cases hjl : j < as.length
    · (repeat' first | ((with_reducible show wpAny _ _ (call (Value.builtin _) [Value.ref _, Value.ref _]) _ _ _); k_dflt (refine' Mine.extend_own (by k_asm) (by k_asm) (by first | ((walk_at "mem"); done) | fail) (by first | ((k_updF); done) | fail) ?_ (by first | ((walk_at "len"); done) | fail) (by first | ((walk_at "len"); done) | fail)); intro _ _ _ _) | (((with_reducible show wpAny _ _ (subscriptTail _ (PySem.Expr.Slice (some _) none none _) (Value.ref _) (Value.ref _)) _ _ _); (rename Fr _ _ _ _ => hF'); (rename News _ _ _ _ => hN'); k_dflt (refine' Mine.slice_at hF' hN' (by first | ((walk_at "mem"); done) | fail) (by exact IsPart.int _ _) (by exact IsPart.none) (by first | ((exact Mine.pick_from' _ (by walk_at "o")); done) | fail) ?_ (by with_unfolding_all rfl) (by first | ((kmk_pure); done) | fail) (by walk_at "o")); clear hF' hN'; intro _ _ _ _ l1; (try k_lt l1)); (try (revert l1; intro _))) | ((with_reducible show wpAny _ _ (subscriptTail _ _ (Value.ref _) (Value.int _ _)) _ _ _); (rename News _ _ _ _ => hN'); k_dflt (refine' Mine.item_noneC (by exact rfl) (by first | ((exact (hN' _ (by assumption)).1); done) | fail) (by assumption) (by exact rfl) (by first | ((exact News.isList hN' (by walk_at "mem")); done) | fail) (by first | (((first | assumption | exact StrsAre.nil | exact Mine.strsDrop _ (by assumption))); done) | fail) (by walk_at "o") (by walk_at "o") (by walk_at "o") ?_); intro _ _ _ _) | ((with_reducible show wpAny _ _ (subscriptTail _ _ (Value.ref _) (Value.int _ _)) _ _ _); k_dflt (refine' Mine.item_none (by with_unfolding_all rfl) (by first | ((exact News.isList (by k_asm) (by walk_at "mem")); done) | fail) (by first | (((first | assumption | exact StrsAre.nil | exact Mine.strsDrop _ (by assumption))); done) | fail) (by walk_at "o") (by walk_at "o") (by walk_at "o") ?_); intro _ _ _ _) | ((with_reducible show wpAny _ _ (subscriptTail _ _ (Value.ref _) (Value.int _ _)) _ _ _); k_dflt (refine' Mine.item_strsZ (by first | ((exact News.isList (by k_asm) (by walk_at "mem")); done) | fail) (by first | (((first | assumption | exact StrsAre.nil | exact Mine.strsDrop _ (by assumption))); done) | fail) (by walk_at "o") (by walk_at "o") (by walk_at "o") ?_); intro _) | ((with_reducible show wpAny _ _ (call (Value.builtin _) [Value.ref _, _]) _ _ _); (rename Fr _ _ _ _ => hF'); (rename News _ _ _ _ => hN'); (refine Mine.append_list hF' hN' (by k_upd) ?_ (by walk_at "len")); clear hF' hN'; intro _ _ _) | walk_at "g")
      · rename (_ < _) => hlt9
        have hlt : ltS (es.getD i Str.empty) (as.getD j Str.empty) = true := decide_eq_true hlt9
        clear hm1 hm2 hm3 hm4 hm5 hm6 hlt9
        obtain ⟨tx, htx⟩ : ∃ tx : Tok, tx = tx := ⟨0, rfl⟩
        refine hold_exec PE9 ?_
        intro Q2 E2 HQ2 HE2 PE2
        rename Fr g' L' _ _ => F3
        rename News g' L' _ _ => N3
        obtain ⟨nx2, N3, hmem2, hnx2⟩ : ∃ nx3, News g' L' _ nx3 ∧ (le, listOf ve.toArray ne) ∈ nx3 ∧ Hid (nx3 = (lu, listOf wu.toArray n2) :: (lm, listOf (wm ++ [Value.str (es.getD i Str.empty) _]).toArray _) :: (le, listOf ve.toArray ne) :: (la, listOf va.toArray na) :: st) := ⟨_, N3, (by walk_at "mem"), ⟨rfl⟩⟩
        refine While_inv2 (n₀ := es.length - (i + 1)) (SK es i nx2 (Str.ofString "i") (Str.ofString "expected") (Str.ofString "e") le (Str.ofString "actual") (Str.ofString "j") (Str.ofString "missing") (Str.ofString "unexpected") (Value.ref la) (Value.int (j : Int) tj) (Value.ref lm) (Value.ref lu) (fun _ => True)) F3 N3 ?_ ?_ PE2
        · exact ⟨i + 1, _, rfl, rfl, Nat.le_refl _, (by walk_at "o"), rfl, (by with_unfolding_all first | rfl | assumption), (by with_unfolding_all first | rfl | assumption), _, (by with_unfolding_all first | rfl | assumption), (by with_unfolding_all first | rfl | assumption), (by with_unfolding_all first | rfl | assumption), (by with_unfolding_all first | rfl | assumption), (by with_unfolding_all first | rfl | assumption), trivial⟩
        clear F3 N3
        rintro q2 m2 ny h6 tk6 F4 N4 ⟨i2, t2, rfl, hq2, hj2, hi2, hskip2, km0, km1, te, km2, km3, km4, km5, km6, _⟩
        rw [mset km0, mset km1, mset km2, mset km3, mset km4, mset km5, mset km6] at F4
        by_cases hil2 : i2 < es.length
        · (repeat' first | ((with_reducible show wpAny _ _ (call (Value.builtin _) [Value.ref _, Value.ref _]) _ _ _); k_dflt (refine' Mine.extend_own (by k_asm) (by k_asm) (by first | ((walk_at "mem"); done) | fail) (by first | ((k_updF); done) | fail) ?_ (by first | ((walk_at "len"); done) | fail) (by first | ((walk_at "len"); done) | fail)); intro _ _ _ _) | (((with_reducible show wpAny _ _ (subscriptTail _ (PySem.Expr.Slice (some _) none none _) (Value.ref _) (Value.ref _)) _ _ _); (rename Fr _ _ _ _ => hF'); (rename News _ _ _ _ => hN'); k_dflt (refine' Mine.slice_at hF' hN' (by first | ((walk_at "mem"); done) | fail) (by exact IsPart.int _ _) (by exact IsPart.none) (by first | ((exact Mine.pick_from' _ (by walk_at "o")); done) | fail) ?_ (by with_unfolding_all rfl) (by first | ((kmk_pure); done) | fail) (by walk_at "o")); clear hF' hN'; intro _ _ _ _ l1; (try k_lt l1)); (try (revert l1; intro _))) | ((with_reducible show wpAny _ _ (subscriptTail _ _ (Value.ref _) (Value.int _ _)) _ _ _); (rename News _ _ _ _ => hN'); k_dflt (refine' Mine.item_noneC (by exact rfl) (by first | ((exact (hN' _ (by assumption)).1); done) | fail) (by assumption) (by exact rfl) (by first | ((exact News.isList hN' (by walk_at "mem")); done) | fail) (by first | (((first | assumption | exact StrsAre.nil | exact Mine.strsDrop _ (by assumption))); done) | fail) (by walk_at "o") (by walk_at "o") (by walk_at "o") ?_); intro _ _ _ _) | ((with_reducible show wpAny _ _ (subscriptTail _ _ (Value.ref _) (Value.int _ _)) _ _ _); k_dflt (refine' Mine.item_none (by with_unfolding_all rfl) (by first | ((exact News.isList (by k_asm) (by walk_at "mem")); done) | fail) (by first | (((first | assumption | exact StrsAre.nil | exact Mine.strsDrop _ (by assumption))); done) | fail) (by walk_at "o") (by walk_at "o") (by walk_at "o") ?_); intro _ _ _ _) | ((with_reducible show wpAny _ _ (subscriptTail _ _ (Value.ref _) (Value.int _ _)) _ _ _); k_dflt (refine' Mine.item_strsZ (by first | ((exact News.isList (by k_asm) (by walk_at "mem")); done) | fail) (by first | (((first | assumption | exact StrsAre.nil | exact Mine.strsDrop _ (by assumption))); done) | fail) (by walk_at "o") (by walk_at "o") (by walk_at "o") ?_); intro _) | ((with_reducible show wpAny _ _ (call (Value.builtin _) [Value.ref _, _]) _ _ _); (rename Fr _ _ _ _ => hF'); (rename News _ _ _ _ => hN'); (refine Mine.append_list hF' hN' (by k_upd) ?_ (by walk_at "len")); clear hF' hN'; intro _ _ _) | walk_at "g")
          · rename (_ == _) = true => hs9
            rename Fr g' L' _ _ => F5
            rename News g' L' _ _ => N5
            exact ⟨_, _, _, _, es.length - (i2 + 1), rfl, F5, N5, t_dec (by assumption) (by assumption), i2 + 1, _, rfl, rfl, by walk_at "o", by walk_at "o", skip_on hskip2 hil2 hs9, (by with_unfolding_all first | rfl | assumption), (by with_unfolding_all first | rfl | assumption), _, (by with_unfolding_all first | rfl | assumption), (by with_unfolding_all first | rfl | assumption), (by with_unfolding_all first | rfl | assumption), (by with_unfolding_all first | rfl | assumption), (by with_unfolding_all first | rfl | assumption), trivial⟩
          · rename (_ == _) = false => hs9
            have hd2 := skip_off hskip2 hil2 (Bool.eq_false_iff.mp hs9)
            rename Fr g' L' _ _ => F5
            rename News g' L' _ _ => N5
            rw [hnx2.out] at N5
            clear km0 km1 km2 km3 km4 km5 km6 hs9 hskip2 hmem2
            rw [HQ2.out]
            dsimp only
            (repeat' first | ((with_reducible show wpAny _ _ (call (Value.builtin _) [Value.ref _, Value.ref _]) _ _ _); k_dflt (refine' Mine.extend_own (by k_asm) (by k_asm) (by first | ((walk_at "mem"); done) | fail) (by first | ((k_updF); done) | fail) ?_ (by first | ((walk_at "len"); done) | fail) (by first | ((walk_at "len"); done) | fail)); intro _ _ _ _) | (((with_reducible show wpAny _ _ (subscriptTail _ (PySem.Expr.Slice (some _) none none _) (Value.ref _) (Value.ref _)) _ _ _); (rename Fr _ _ _ _ => hF'); (rename News _ _ _ _ => hN'); k_dflt (refine' Mine.slice_at hF' hN' (by first | ((walk_at "mem"); done) | fail) (by exact IsPart.int _ _) (by exact IsPart.none) (by first | ((exact Mine.pick_from' _ (by walk_at "o")); done) | fail) ?_ (by with_unfolding_all rfl) (by first | ((kmk_pure); done) | fail) (by walk_at "o")); clear hF' hN'; intro _ _ _ _ l1; (try k_lt l1)); (try (revert l1; intro _))) | ((with_reducible show wpAny _ _ (subscriptTail _ _ (Value.ref _) (Value.int _ _)) _ _ _); (rename News _ _ _ _ => hN'); k_dflt (refine' Mine.item_noneC (by exact rfl) (by first | ((exact (hN' _ (by assumption)).1); done) | fail) (by assumption) (by exact rfl) (by first | ((exact News.isList hN' (by walk_at "mem")); done) | fail) (by first | (((first | assumption | exact StrsAre.nil | exact Mine.strsDrop _ (by assumption))); done) | fail) (by walk_at "o") (by walk_at "o") (by walk_at "o") ?_); intro _ _ _ _) | ((with_reducible show wpAny _ _ (subscriptTail _ _ (Value.ref _) (Value.int _ _)) _ _ _); k_dflt (refine' Mine.item_none (by with_unfolding_all rfl) (by first | ((exact News.isList (by k_asm) (by walk_at "mem")); done) | fail) (by first | (((first | assumption | exact StrsAre.nil | exact Mine.strsDrop _ (by assumption))); done) | fail) (by walk_at "o") (by walk_at "o") (by walk_at "o") ?_); intro _ _ _ _) | ((with_reducible show wpAny _ _ (subscriptTail _ _ (Value.ref _) (Value.int _ _)) _ _ _); k_dflt (refine' Mine.item_strsZ (by first | ((exact News.isList (by k_asm) (by walk_at "mem")); done) | fail) (by first | (((first | assumption | exact StrsAre.nil | exact Mine.strsDrop _ (by assumption))); done) | fail) (by walk_at "o") (by walk_at "o") (by walk_at "o") ?_); intro _) | ((with_reducible show wpAny _ _ (call (Value.builtin _) [Value.ref _, _]) _ _ _); (rename Fr _ _ _ _ => hF'); (rename News _ _ _ _ => hN'); (refine Mine.append_list hF' hN' (by k_upd) ?_ (by walk_at "len")); clear hF' hN'; intro _ _ _) | walk_at "g")
            rw [HQ.out]
            dsimp only
            (repeat' first | ((with_reducible show wpAny _ _ (call (Value.builtin _) [Value.ref _, Value.ref _]) _ _ _); k_dflt (refine' Mine.extend_own (by k_asm) (by k_asm) (by first | ((walk_at "mem"); done) | fail) (by first | ((k_updF); done) | fail) ?_ (by first | ((walk_at "len"); done) | fail) (by first | ((walk_at "len"); done) | fail)); intro _ _ _ _) | (((with_reducible show wpAny _ _ (subscriptTail _ (PySem.Expr.Slice (some _) none none _) (Value.ref _) (Value.ref _)) _ _ _); (rename Fr _ _ _ _ => hF'); (rename News _ _ _ _ => hN'); k_dflt (refine' Mine.slice_at hF' hN' (by first | ((walk_at "mem"); done) | fail) (by exact IsPart.int _ _) (by exact IsPart.none) (by first | ((exact Mine.pick_from' _ (by walk_at "o")); done) | fail) ?_ (by with_unfolding_all rfl) (by first | ((kmk_pure); done) | fail) (by walk_at "o")); clear hF' hN'; intro _ _ _ _ l1; (try k_lt l1)); (try (revert l1; intro _))) | ((with_reducible show wpAny _ _ (subscriptTail _ _ (Value.ref _) (Value.int _ _)) _ _ _); (rename News _ _ _ _ => hN'); k_dflt (refine' Mine.item_noneC (by exact rfl) (by first | ((exact (hN' _ (by assumption)).1); done) | fail) (by assumption) (by exact rfl) (by first | ((exact News.isList hN' (by walk_at "mem")); done) | fail) (by first | (((first | assumption | exact StrsAre.nil | exact Mine.strsDrop _ (by assumption))); done) | fail) (by walk_at "o") (by walk_at "o") (by walk_at "o") ?_); intro _ _ _ _) | ((with_reducible show wpAny _ _ (subscriptTail _ _ (Value.ref _) (Value.int _ _)) _ _ _); k_dflt (refine' Mine.item_none (by with_unfolding_all rfl) (by first | ((exact News.isList (by k_asm) (by walk_at "mem")); done) | fail) (by first | (((first | assumption | exact StrsAre.nil | exact Mine.strsDrop _ (by assumption))); done) | fail) (by walk_at "o") (by walk_at "o") (by walk_at "o") ?_); intro _ _ _ _) | ((with_reducible show wpAny _ _ (subscriptTail _ _ (Value.ref _) (Value.int _ _)) _ _ _); k_dflt (refine' Mine.item_strsZ (by first | ((exact News.isList (by k_asm) (by walk_at "mem")); done) | fail) (by first | (((first | assumption | exact StrsAre.nil | exact Mine.strsDrop _ (by assumption))); done) | fail) (by walk_at "o") (by walk_at "o") (by walk_at "o") ?_); intro _) | ((with_reducible show wpAny _ _ (call (Value.builtin _) [Value.ref _, _]) _ _ _); (rename Fr _ _ _ _ => hF'); (rename News _ _ _ _ => hN'); (refine Mine.append_list hF' hN' (by k_upd) ?_ (by walk_at "len")); clear hF' hN'; intro _ _ _) | walk_at "g")
            exact ⟨_, _, _, _, (es.length - i2) + (as.length - j), rfl, F5, N5, t_decL (by assumption) (by assumption) (by assumption), i2, j, _, _, (ms ++ [es.getD i Str.empty]), us, (wm ++ [Value.str (es.getD i Str.empty) _]), wu, _, _, rfl, rfl, hi2, hj, (hwm.append' (.cons _ _ .nil)), hwu, (sld_lt hsl hil hjl hlt hd2), (by simp only [List.length_append, List.length_singleton]; walk_at "o"), hz2, (by with_unfolding_all first | rfl | assumption), (by with_unfolding_all first | rfl | assumption), (by with_unfolding_all first | rfl | assumption), (by with_unfolding_all first | rfl | assumption), (by with_unfolding_all first | rfl | assumption), (by with_unfolding_all first | rfl | assumption)⟩
        · (repeat' first | ((with_reducible show wpAny _ _ (call (Value.builtin _) [Value.ref _, Value.ref _]) _ _ _); k_dflt (refine' Mine.extend_own (by k_asm) (by k_asm) (by first | ((walk_at "mem"); done) | fail) (by first | ((k_updF); done) | fail) ?_ (by first | ((walk_at "len"); done) | fail) (by first | ((walk_at "len"); done) | fail)); intro _ _ _ _) | (((with_reducible show wpAny _ _ (subscriptTail _ (PySem.Expr.Slice (some _) none none _) (Value.ref _) (Value.ref _)) _ _ _); (rename Fr _ _ _ _ => hF'); (rename News _ _ _ _ => hN'); k_dflt (refine' Mine.slice_at hF' hN' (by first | ((walk_at "mem"); done) | fail) (by exact IsPart.int _ _) (by exact IsPart.none) (by first | ((exact Mine.pick_from' _ (by walk_at "o")); done) | fail) ?_ (by with_unfolding_all rfl) (by first | ((kmk_pure); done) | fail) (by walk_at "o")); clear hF' hN'; intro _ _ _ _ l1; (try k_lt l1)); (try (revert l1; intro _))) | ((with_reducible show wpAny _ _ (subscriptTail _ _ (Value.ref _) (Value.int _ _)) _ _ _); (rename News _ _ _ _ => hN'); k_dflt (refine' Mine.item_noneC (by exact rfl) (by first | ((exact (hN' _ (by assumption)).1); done) | fail) (by assumption) (by exact rfl) (by first | ((exact News.isList hN' (by walk_at "mem")); done) | fail) (by first | (((first | assumption | exact StrsAre.nil | exact Mine.strsDrop _ (by assumption))); done) | fail) (by walk_at "o") (by walk_at "o") (by walk_at "o") ?_); intro _ _ _ _) | ((with_reducible show wpAny _ _ (subscriptTail _ _ (Value.ref _) (Value.int _ _)) _ _ _); k_dflt (refine' Mine.item_none (by with_unfolding_all rfl) (by first | ((exact News.isList (by k_asm) (by walk_at "mem")); done) | fail) (by first | (((first | assumption | exact StrsAre.nil | exact Mine.strsDrop _ (by assumption))); done) | fail) (by walk_at "o") (by walk_at "o") (by walk_at "o") ?_); intro _ _ _ _) | ((with_reducible show wpAny _ _ (subscriptTail _ _ (Value.ref _) (Value.int _ _)) _ _ _); k_dflt (refine' Mine.item_strsZ (by first | ((exact News.isList (by k_asm) (by walk_at "mem")); done) | fail) (by first | (((first | assumption | exact StrsAre.nil | exact Mine.strsDrop _ (by assumption))); done) | fail) (by walk_at "o") (by walk_at "o") (by walk_at "o") ?_); intro _) | ((with_reducible show wpAny _ _ (call (Value.builtin _) [Value.ref _, _]) _ _ _); (rename Fr _ _ _ _ => hF'); (rename News _ _ _ _ => hN'); (refine Mine.append_list hF' hN' (by k_upd) ?_ (by walk_at "len")); clear hF' hN'; intro _ _ _) | walk_at "g")
          have hd2 := skip_end hskip2 (by walk_at "o")
          rename Fr g' L' _ _ => F5
          rename News g' L' _ _ => N5
          rw [hnx2.out] at N5
          clear km0 km1 km2 km3 km4 km5 km6 hskip2 hmem2
          rw [HE2.out]
          have e9 := sld_lt hsl hil hjl hlt hd2
          rw [sld_end (.inl (List.drop_of_length_le (by walk_at "o")))] at e9
          rename Heap.NewExc _ _ _ _ => hx9
          rename Fr g' L' _ _ => F9
          rename News g' L' _ _ => N9
          refine hx _ _ i2 j _ _ (ms ++ [es.getD i Str.empty]) us (wm ++ [Value.str (es.getD i Str.empty) _]) wu _ _ _ _ _ F9 N9 hi2 hj (hwm.append' (.cons _ _ .nil)) hwu e9 (by simp only [List.length_append, List.length_singleton]; walk_at "o") hz2 (by with_unfolding_all first | rfl | assumption) (by with_unfolding_all first | rfl | assumption) (by with_unfolding_all first | rfl | assumption) (by with_unfolding_all first | rfl | assumption) (by with_unfolding_all first | rfl | assumption) (by with_unfolding_all first | rfl | assumption) hx9

      · rename (_ < _) => hgt9
        rename ¬ (_ < _) => hnl9
        have hgt : ltS (as.getD j Str.empty) (es.getD i Str.empty) = true := decide_eq_true hgt9
        have hnl : ¬ ltS (es.getD i Str.empty) (as.getD j Str.empty) = true := fun h9 => hnl9 (of_decide_eq_true h9)
        clear hm1 hm2 hm3 hm4 hm5 hm6 hgt9 hnl9
        refine hold_exec PE9 ?_
        intro Q2 E2 HQ2 HE2 PE2
        rename Fr g' L' _ _ => F3
        rename News g' L' _ _ => N3
        obtain ⟨nx2, N3, hmem2, hnx2⟩ : ∃ nx3, News g' L' _ nx3 ∧ (la, listOf va.toArray na) ∈ nx3 ∧ Hid (nx3 = (lu, listOf (wu ++ [Value.str (as.getD j Str.empty) _]).toArray _) :: (lm, listOf wm.toArray n1) :: (le, listOf ve.toArray ne) :: (la, listOf va.toArray na) :: st) := ⟨_, N3, (by walk_at "mem"), ⟨rfl⟩⟩
        refine While_inv2 (n₀ := as.length - (j + 1)) (SK as j nx2 (Str.ofString "j") (Str.ofString "actual") (Str.ofString "a") la (Str.ofString "expected") (Str.ofString "i") (Str.ofString "missing") (Str.ofString "unexpected") (Value.ref le) (Value.int (i : Int) ti) (Value.ref lm) (Value.ref lu) (fun _ => True)) F3 N3 ?_ ?_ PE2
        · exact ⟨j + 1, _, rfl, rfl, Nat.le_refl _, (by walk_at "o"), rfl, (by with_unfolding_all first | rfl | assumption), (by with_unfolding_all first | rfl | assumption), _, (by with_unfolding_all first | rfl | assumption), (by with_unfolding_all first | rfl | assumption), (by with_unfolding_all first | rfl | assumption), (by with_unfolding_all first | rfl | assumption), (by with_unfolding_all first | rfl | assumption), trivial⟩
        clear F3 N3
        rintro q2 m2 ny h6 tk6 F4 N4 ⟨i2, t2, rfl, hq2, hj2, hi2, hskip2, km0, km1, te, km2, km3, km4, km5, km6, _⟩
        rw [mset km0, mset km1, mset km2, mset km3, mset km4, mset km5, mset km6] at F4
        by_cases hil2 : i2 < as.length
        · (repeat' first | ((with_reducible show wpAny _ _ (call (Value.builtin _) [Value.ref _, Value.ref _]) _ _ _); k_dflt (refine' Mine.extend_own (by k_asm) (by k_asm) (by first | ((walk_at "mem"); done) | fail) (by first | ((k_updF); done) | fail) ?_ (by first | ((walk_at "len"); done) | fail) (by first | ((walk_at "len"); done) | fail)); intro _ _ _ _) | (((with_reducible show wpAny _ _ (subscriptTail _ (PySem.Expr.Slice (some _) none none _) (Value.ref _) (Value.ref _)) _ _ _); (rename Fr _ _ _ _ => hF'); (rename News _ _ _ _ => hN'); k_dflt (refine' Mine.slice_at hF' hN' (by first | ((walk_at "mem"); done) | fail) (by exact IsPart.int _ _) (by exact IsPart.none) (by first | ((exact Mine.pick_from' _ (by walk_at "o")); done) | fail) ?_ (by with_unfolding_all rfl) (by first | ((kmk_pure); done) | fail) (by walk_at "o")); clear hF' hN'; intro _ _ _ _ l1; (try k_lt l1)); (try (revert l1; intro _))) | ((with_reducible show wpAny _ _ (subscriptTail _ _ (Value.ref _) (Value.int _ _)) _ _ _); (rename News _ _ _ _ => hN'); k_dflt (refine' Mine.item_noneC (by exact rfl) (by first | ((exact (hN' _ (by assumption)).1); done) | fail) (by assumption) (by exact rfl) (by first | ((exact News.isList hN' (by walk_at "mem")); done) | fail) (by first | (((first | assumption | exact StrsAre.nil | exact Mine.strsDrop _ (by assumption))); done) | fail) (by walk_at "o") (by walk_at "o") (by walk_at "o") ?_); intro _ _ _ _) | ((with_reducible show wpAny _ _ (subscriptTail _ _ (Value.ref _) (Value.int _ _)) _ _ _); k_dflt (refine' Mine.item_none (by with_unfolding_all rfl) (by first | ((exact News.isList (by k_asm) (by walk_at "mem")); done) | fail) (by first | (((first | assumption | exact StrsAre.nil | exact Mine.strsDrop _ (by assumption))); done) | fail) (by walk_at "o") (by walk_at "o") (by walk_at "o") ?_); intro _ _ _ _) | ((with_reducible show wpAny _ _ (subscriptTail _ _ (Value.ref _) (Value.int _ _)) _ _ _); k_dflt (refine' Mine.item_strsZ (by first | ((exact News.isList (by k_asm) (by walk_at "mem")); done) | fail) (by first | (((first | assumption | exact StrsAre.nil | exact Mine.strsDrop _ (by assumption))); done) | fail) (by walk_at "o") (by walk_at "o") (by walk_at "o") ?_); intro _) | ((with_reducible show wpAny _ _ (call (Value.builtin _) [Value.ref _, _]) _ _ _); (rename Fr _ _ _ _ => hF'); (rename News _ _ _ _ => hN'); (refine Mine.append_list hF' hN' (by k_upd) ?_ (by walk_at "len")); clear hF' hN'; intro _ _ _) | walk_at "g")
          · rename (_ == _) = true => hs9
            rename Fr g' L' _ _ => F5
            rename News g' L' _ _ => N5
            exact ⟨_, _, _, _, as.length - (i2 + 1), rfl, F5, N5, t_dec (by assumption) (by assumption), i2 + 1, _, rfl, rfl, by walk_at "o", by walk_at "o", skip_on hskip2 hil2 hs9, (by with_unfolding_all first | rfl | assumption), (by with_unfolding_all first | rfl | assumption), _, (by with_unfolding_all first | rfl | assumption), (by with_unfolding_all first | rfl | assumption), (by with_unfolding_all first | rfl | assumption), (by with_unfolding_all first | rfl | assumption), (by with_unfolding_all first | rfl | assumption), trivial⟩
          · rename (_ == _) = false => hs9
            have hd2 := skip_off hskip2 hil2 (Bool.eq_false_iff.mp hs9)
            rename Fr g' L' _ _ => F5
            rename News g' L' _ _ => N5
            rw [hnx2.out] at N5
            clear km0 km1 km2 km3 km4 km5 km6 hs9 hskip2 hmem2
            rw [HQ2.out]
            dsimp only
            (repeat' first | ((with_reducible show wpAny _ _ (call (Value.builtin _) [Value.ref _, Value.ref _]) _ _ _); k_dflt (refine' Mine.extend_own (by k_asm) (by k_asm) (by first | ((walk_at "mem"); done) | fail) (by first | ((k_updF); done) | fail) ?_ (by first | ((walk_at "len"); done) | fail) (by first | ((walk_at "len"); done) | fail)); intro _ _ _ _) | (((with_reducible show wpAny _ _ (subscriptTail _ (PySem.Expr.Slice (some _) none none _) (Value.ref _) (Value.ref _)) _ _ _); (rename Fr _ _ _ _ => hF'); (rename News _ _ _ _ => hN'); k_dflt (refine' Mine.slice_at hF' hN' (by first | ((walk_at "mem"); done) | fail) (by exact IsPart.int _ _) (by exact IsPart.none) (by first | ((exact Mine.pick_from' _ (by walk_at "o")); done) | fail) ?_ (by with_unfolding_all rfl) (by first | ((kmk_pure); done) | fail) (by walk_at "o")); clear hF' hN'; intro _ _ _ _ l1; (try k_lt l1)); (try (revert l1; intro _))) | ((with_reducible show wpAny _ _ (subscriptTail _ _ (Value.ref _) (Value.int _ _)) _ _ _); (rename News _ _ _ _ => hN'); k_dflt (refine' Mine.item_noneC (by exact rfl) (by first | ((exact (hN' _ (by assumption)).1); done) | fail) (by assumption) (by exact rfl) (by first | ((exact News.isList hN' (by walk_at "mem")); done) | fail) (by first | (((first | assumption | exact StrsAre.nil | exact Mine.strsDrop _ (by assumption))); done) | fail) (by walk_at "o") (by walk_at "o") (by walk_at "o") ?_); intro _ _ _ _) | ((with_reducible show wpAny _ _ (subscriptTail _ _ (Value.ref _) (Value.int _ _)) _ _ _); k_dflt (refine' Mine.item_none (by with_unfolding_all rfl) (by first | ((exact News.isList (by k_asm) (by walk_at "mem")); done) | fail) (by first | (((first | assumption | exact StrsAre.nil | exact Mine.strsDrop _ (by assumption))); done) | fail) (by walk_at "o") (by walk_at "o") (by walk_at "o") ?_); intro _ _ _ _) | ((with_reducible show wpAny _ _ (subscriptTail _ _ (Value.ref _) (Value.int _ _)) _ _ _); k_dflt (refine' Mine.item_strsZ (by first | ((exact News.isList (by k_asm) (by walk_at "mem")); done) | fail) (by first | (((first | assumption | exact StrsAre.nil | exact Mine.strsDrop _ (by assumption))); done) | fail) (by walk_at "o") (by walk_at "o") (by walk_at "o") ?_); intro _) | ((with_reducible show wpAny _ _ (call (Value.builtin _) [Value.ref _, _]) _ _ _); (rename Fr _ _ _ _ => hF'); (rename News _ _ _ _ => hN'); (refine Mine.append_list hF' hN' (by k_upd) ?_ (by walk_at "len")); clear hF' hN'; intro _ _ _) | walk_at "g")
            rw [HQ.out]
            dsimp only
            (repeat' first | ((with_reducible show wpAny _ _ (call (Value.builtin _) [Value.ref _, Value.ref _]) _ _ _); k_dflt (refine' Mine.extend_own (by k_asm) (by k_asm) (by first | ((walk_at "mem"); done) | fail) (by first | ((k_updF); done) | fail) ?_ (by first | ((walk_at "len"); done) | fail) (by first | ((walk_at "len"); done) | fail)); intro _ _ _ _) | (((with_reducible show wpAny _ _ (subscriptTail _ (PySem.Expr.Slice (some _) none none _) (Value.ref _) (Value.ref _)) _ _ _); (rename Fr _ _ _ _ => hF'); (rename News _ _ _ _ => hN'); k_dflt (refine' Mine.slice_at hF' hN' (by first | ((walk_at "mem"); done) | fail) (by exact IsPart.int _ _) (by exact IsPart.none) (by first | ((exact Mine.pick_from' _ (by walk_at "o")); done) | fail) ?_ (by with_unfolding_all rfl) (by first | ((kmk_pure); done) | fail) (by walk_at "o")); clear hF' hN'; intro _ _ _ _ l1; (try k_lt l1)); (try (revert l1; intro _))) | ((with_reducible show wpAny _ _ (subscriptTail _ _ (Value.ref _) (Value.int _ _)) _ _ _); (rename News _ _ _ _ => hN'); k_dflt (refine' Mine.item_noneC (by exact rfl) (by first | ((exact (hN' _ (by assumption)).1); done) | fail) (by assumption) (by exact rfl) (by first | ((exact News.isList hN' (by walk_at "mem")); done) | fail) (by first | (((first | assumption | exact StrsAre.nil | exact Mine.strsDrop _ (by assumption))); done) | fail) (by walk_at "o") (by walk_at "o") (by walk_at "o") ?_); intro _ _ _ _) | ((with_reducible show wpAny _ _ (subscriptTail _ _ (Value.ref _) (Value.int _ _)) _ _ _); k_dflt (refine' Mine.item_none (by with_unfolding_all rfl) (by first | ((exact News.isList (by k_asm) (by walk_at "mem")); done) | fail) (by first | (((first | assumption | exact StrsAre.nil | exact Mine.strsDrop _ (by assumption))); done) | fail) (by walk_at "o") (by walk_at "o") (by walk_at "o") ?_); intro _ _ _ _) | ((with_reducible show wpAny _ _ (subscriptTail _ _ (Value.ref _) (Value.int _ _)) _ _ _); k_dflt (refine' Mine.item_strsZ (by first | ((exact News.isList (by k_asm) (by walk_at "mem")); done) | fail) (by first | (((first | assumption | exact StrsAre.nil | exact Mine.strsDrop _ (by assumption))); done) | fail) (by walk_at "o") (by walk_at "o") (by walk_at "o") ?_); intro _) | ((with_reducible show wpAny _ _ (call (Value.builtin _) [Value.ref _, _]) _ _ _); (rename Fr _ _ _ _ => hF'); (rename News _ _ _ _ => hN'); (refine Mine.append_list hF' hN' (by k_upd) ?_ (by walk_at "len")); clear hF' hN'; intro _ _ _) | walk_at "g")
            exact ⟨_, _, _, _, (es.length - i) + (as.length - i2), rfl, F5, N5, t_decR (by assumption) (by assumption) (by assumption), i, i2, _, _, ms, (us ++ [as.getD j Str.empty]), wm, (wu ++ [Value.str (as.getD j Str.empty) _]), _, _, rfl, rfl, hi, hi2, hwm, (hwu.append' (.cons _ _ .nil)), (sld_gt hsl hil hjl hnl hgt hd2), hz1, (by simp only [List.length_append, List.length_singleton]; walk_at "o"), (by with_unfolding_all first | rfl | assumption), (by with_unfolding_all first | rfl | assumption), (by with_unfolding_all first | rfl | assumption), (by with_unfolding_all first | rfl | assumption), (by with_unfolding_all first | rfl | assumption), (by with_unfolding_all first | rfl | assumption)⟩
        · (repeat' first | ((with_reducible show wpAny _ _ (call (Value.builtin _) [Value.ref _, Value.ref _]) _ _ _); k_dflt (refine' Mine.extend_own (by k_asm) (by k_asm) (by first | ((walk_at "mem"); done) | fail) (by first | ((k_updF); done) | fail) ?_ (by first | ((walk_at "len"); done) | fail) (by first | ((walk_at "len"); done) | fail)); intro _ _ _ _) | (((with_reducible show wpAny _ _ (subscriptTail _ (PySem.Expr.Slice (some _) none none _) (Value.ref _) (Value.ref _)) _ _ _); (rename Fr _ _ _ _ => hF'); (rename News _ _ _ _ => hN'); k_dflt (refine' Mine.slice_at hF' hN' (by first | ((walk_at "mem"); done) | fail) (by exact IsPart.int _ _) (by exact IsPart.none) (by first | ((exact Mine.pick_from' _ (by walk_at "o")); done) | fail) ?_ (by with_unfolding_all rfl) (by first | ((kmk_pure); done) | fail) (by walk_at "o")); clear hF' hN'; intro _ _ _ _ l1; (try k_lt l1)); (try (revert l1; intro _))) | ((with_reducible show wpAny _ _ (subscriptTail _ _ (Value.ref _) (Value.int _ _)) _ _ _); (rename News _ _ _ _ => hN'); k_dflt (refine' Mine.item_noneC (by exact rfl) (by first | ((exact (hN' _ (by assumption)).1); done) | fail) (by assumption) (by exact rfl) (by first | ((exact News.isList hN' (by walk_at "mem")); done) | fail) (by first | (((first | assumption | exact StrsAre.nil | exact Mine.strsDrop _ (by assumption))); done) | fail) (by walk_at "o") (by walk_at "o") (by walk_at "o") ?_); intro _ _ _ _) | ((with_reducible show wpAny _ _ (subscriptTail _ _ (Value.ref _) (Value.int _ _)) _ _ _); k_dflt (refine' Mine.item_none (by with_unfolding_all rfl) (by first | ((exact News.isList (by k_asm) (by walk_at "mem")); done) | fail) (by first | (((first | assumption | exact StrsAre.nil | exact Mine.strsDrop _ (by assumption))); done) | fail) (by walk_at "o") (by walk_at "o") (by walk_at "o") ?_); intro _ _ _ _) | ((with_reducible show wpAny _ _ (subscriptTail _ _ (Value.ref _) (Value.int _ _)) _ _ _); k_dflt (refine' Mine.item_strsZ (by first | ((exact News.isList (by k_asm) (by walk_at "mem")); done) | fail) (by first | (((first | assumption | exact StrsAre.nil | exact Mine.strsDrop _ (by assumption))); done) | fail) (by walk_at "o") (by walk_at "o") (by walk_at "o") ?_); intro _) | ((with_reducible show wpAny _ _ (call (Value.builtin _) [Value.ref _, _]) _ _ _); (rename Fr _ _ _ _ => hF'); (rename News _ _ _ _ => hN'); (refine Mine.append_list hF' hN' (by k_upd) ?_ (by walk_at "len")); clear hF' hN'; intro _ _ _) | walk_at "g")
          have hd2 := skip_end hskip2 (by walk_at "o")
          rename Fr g' L' _ _ => F5
          rename News g' L' _ _ => N5
          rw [hnx2.out] at N5
          clear km0 km1 km2 km3 km4 km5 km6 hskip2 hmem2
          rw [HE2.out]
          have e9 := sld_gt hsl hil hjl hnl hgt hd2
          rw [sld_end (.inr (List.drop_of_length_le (by walk_at "o")))] at e9
          rename Heap.NewExc _ _ _ _ => hx9
          rename Fr g' L' _ _ => F9
          rename News g' L' _ _ => N9
          refine hx _ _ i i2 _ _ ms (us ++ [as.getD j Str.empty]) wm (wu ++ [Value.str (as.getD j Str.empty) _]) _ _ _ _ _ F9 N9 hi hi2 hwm (hwu.append' (.cons _ _ .nil)) e9 hz1 (by simp only [List.length_append, List.length_singleton]; walk_at "o") (by with_unfolding_all first | rfl | assumption) (by with_unfolding_all first | rfl | assumption) (by with_unfolding_all first | rfl | assumption) (by with_unfolding_all first | rfl | assumption) (by with_unfolding_all first | rfl | assumption) (by with_unfolding_all first | rfl | assumption) hx9

      · have hnl : ¬ ltS (es.getD i Str.empty) (as.getD j Str.empty) = true := fun h9 => absurd (of_decide_eq_true h9) (by assumption)
        have hng : ¬ ltS (as.getD j Str.empty) (es.getD i Str.empty) = true := fun h9 => absurd (of_decide_eq_true h9) (by assumption)
        clear hm1 hm2 hm3 hm4 hm5 hm6
        refine hold_exec (by passes_own) ?_
        intro Q2 E2 HQ2 HE2 PE2
        rename Fr g' L' _ _ => F3
        rename News g' L' _ _ => N3
        obtain ⟨nx2, N3, hmem2, hnx2⟩ : ∃ nx3, News g' L' _ nx3 ∧ (le, listOf ve.toArray ne) ∈ nx3 ∧ Hid (nx3 = (lu, listOf wu.toArray n2) :: (lm, listOf wm.toArray n1) :: (le, listOf ve.toArray ne) :: (la, listOf va.toArray na) :: st) := ⟨_, N3, (by walk_at "mem"), ⟨rfl⟩⟩
        refine While_inv2 (n₀ := es.length - (i + 1)) (SK es i nx2 (Str.ofString "i") (Str.ofString "expected") (Str.ofString "e") le (Str.ofString "actual") (Str.ofString "j") (Str.ofString "missing") (Str.ofString "unexpected") (Value.ref la) (Value.int (j : Int) tj) (Value.ref lm) (Value.ref lu) (fun m₂ => ∃ ta, m₂ (Str.ofString "a") = some (.str (as.getD j Str.empty) ta))) F3 N3 ?_ ?_ PE2
        · exact ⟨i + 1, _, rfl, rfl, Nat.le_refl _, (by walk_at "o"), rfl, (by with_unfolding_all first | rfl | assumption), (by with_unfolding_all first | rfl | assumption), _, (by with_unfolding_all first | rfl | assumption), (by with_unfolding_all first | rfl | assumption), (by with_unfolding_all first | rfl | assumption), (by with_unfolding_all first | rfl | assumption), (by with_unfolding_all first | rfl | assumption), ⟨_, (by with_unfolding_all first | rfl | assumption)⟩⟩
        clear F3 N3
        rintro q2 m2 ny h6 tk6 F4 N4 ⟨i2, t2, rfl, hq2, hj2, hi2, hskip2, km0, km1, te, km2, km3, km4, km5, km6, ⟨ta, kma⟩⟩
        rw [mset km0, mset km1, mset km2, mset km3, mset km4, mset km5, mset km6, mset kma] at F4
        by_cases hil2 : i2 < es.length
        · (repeat' first | ((with_reducible show wpAny _ _ (call (Value.builtin _) [Value.ref _, Value.ref _]) _ _ _); k_dflt (refine' Mine.extend_own (by k_asm) (by k_asm) (by first | ((walk_at "mem"); done) | fail) (by first | ((k_updF); done) | fail) ?_ (by first | ((walk_at "len"); done) | fail) (by first | ((walk_at "len"); done) | fail)); intro _ _ _ _) | (((with_reducible show wpAny _ _ (subscriptTail _ (PySem.Expr.Slice (some _) none none _) (Value.ref _) (Value.ref _)) _ _ _); (rename Fr _ _ _ _ => hF'); (rename News _ _ _ _ => hN'); k_dflt (refine' Mine.slice_at hF' hN' (by first | ((walk_at "mem"); done) | fail) (by exact IsPart.int _ _) (by exact IsPart.none) (by first | ((exact Mine.pick_from' _ (by walk_at "o")); done) | fail) ?_ (by with_unfolding_all rfl) (by first | ((kmk_pure); done) | fail) (by walk_at "o")); clear hF' hN'; intro _ _ _ _ l1; (try k_lt l1)); (try (revert l1; intro _))) | ((with_reducible show wpAny _ _ (subscriptTail _ _ (Value.ref _) (Value.int _ _)) _ _ _); (rename News _ _ _ _ => hN'); k_dflt (refine' Mine.item_noneC (by exact rfl) (by first | ((exact (hN' _ (by assumption)).1); done) | fail) (by assumption) (by exact rfl) (by first | ((exact News.isList hN' (by walk_at "mem")); done) | fail) (by first | (((first | assumption | exact StrsAre.nil | exact Mine.strsDrop _ (by assumption))); done) | fail) (by walk_at "o") (by walk_at "o") (by walk_at "o") ?_); intro _ _ _ _) | ((with_reducible show wpAny _ _ (subscriptTail _ _ (Value.ref _) (Value.int _ _)) _ _ _); k_dflt (refine' Mine.item_none (by with_unfolding_all rfl) (by first | ((exact News.isList (by k_asm) (by walk_at "mem")); done) | fail) (by first | (((first | assumption | exact StrsAre.nil | exact Mine.strsDrop _ (by assumption))); done) | fail) (by walk_at "o") (by walk_at "o") (by walk_at "o") ?_); intro _ _ _ _) | ((with_reducible show wpAny _ _ (subscriptTail _ _ (Value.ref _) (Value.int _ _)) _ _ _); k_dflt (refine' Mine.item_strsZ (by first | ((exact News.isList (by k_asm) (by walk_at "mem")); done) | fail) (by first | (((first | assumption | exact StrsAre.nil | exact Mine.strsDrop _ (by assumption))); done) | fail) (by walk_at "o") (by walk_at "o") (by walk_at "o") ?_); intro _) | ((with_reducible show wpAny _ _ (call (Value.builtin _) [Value.ref _, _]) _ _ _); (rename Fr _ _ _ _ => hF'); (rename News _ _ _ _ => hN'); (refine Mine.append_list hF' hN' (by k_upd) ?_ (by walk_at "len")); clear hF' hN'; intro _ _ _) | walk_at "g")
          · rename (_ == _) = true => hs9
            rename Fr g' L' _ _ => F5
            rename News g' L' _ _ => N5
            exact ⟨_, _, _, _, es.length - (i2 + 1), rfl, F5, N5, t_dec (by assumption) (by assumption), i2 + 1, _, rfl, rfl, by walk_at "o", by walk_at "o", skip_on hskip2 hil2 hs9, (by with_unfolding_all first | rfl | assumption), (by with_unfolding_all first | rfl | assumption), _, (by with_unfolding_all first | rfl | assumption), (by with_unfolding_all first | rfl | assumption), (by with_unfolding_all first | rfl | assumption), (by with_unfolding_all first | rfl | assumption), (by with_unfolding_all first | rfl | assumption), ⟨_, (by with_unfolding_all first | rfl | assumption)⟩⟩
          · rename (_ == _) = false => hs9
            have hd2 := skip_off hskip2 hil2 (Bool.eq_false_iff.mp hs9)
            rename Fr g' L' _ _ => F5
            rename News g' L' _ _ => N5
            rw [hnx2.out] at N5
            clear km0 km1 km2 km3 km4 km5 km6 hs9 hskip2 hmem2
            rw [HQ2.out]
            dsimp only
            (repeat' first | ((with_reducible show wpAny _ _ (call (Value.builtin _) [Value.ref _, Value.ref _]) _ _ _); k_dflt (refine' Mine.extend_own (by k_asm) (by k_asm) (by first | ((walk_at "mem"); done) | fail) (by first | ((k_updF); done) | fail) ?_ (by first | ((walk_at "len"); done) | fail) (by first | ((walk_at "len"); done) | fail)); intro _ _ _ _) | (((with_reducible show wpAny _ _ (subscriptTail _ (PySem.Expr.Slice (some _) none none _) (Value.ref _) (Value.ref _)) _ _ _); (rename Fr _ _ _ _ => hF'); (rename News _ _ _ _ => hN'); k_dflt (refine' Mine.slice_at hF' hN' (by first | ((walk_at "mem"); done) | fail) (by exact IsPart.int _ _) (by exact IsPart.none) (by first | ((exact Mine.pick_from' _ (by walk_at "o")); done) | fail) ?_ (by with_unfolding_all rfl) (by first | ((kmk_pure); done) | fail) (by walk_at "o")); clear hF' hN'; intro _ _ _ _ l1; (try k_lt l1)); (try (revert l1; intro _))) | ((with_reducible show wpAny _ _ (subscriptTail _ _ (Value.ref _) (Value.int _ _)) _ _ _); (rename News _ _ _ _ => hN'); k_dflt (refine' Mine.item_noneC (by exact rfl) (by first | ((exact (hN' _ (by assumption)).1); done) | fail) (by assumption) (by exact rfl) (by first | ((exact News.isList hN' (by walk_at "mem")); done) | fail) (by first | (((first | assumption | exact StrsAre.nil | exact Mine.strsDrop _ (by assumption))); done) | fail) (by walk_at "o") (by walk_at "o") (by walk_at "o") ?_); intro _ _ _ _) | ((with_reducible show wpAny _ _ (subscriptTail _ _ (Value.ref _) (Value.int _ _)) _ _ _); k_dflt (refine' Mine.item_none (by with_unfolding_all rfl) (by first | ((exact News.isList (by k_asm) (by walk_at "mem")); done) | fail) (by first | (((first | assumption | exact StrsAre.nil | exact Mine.strsDrop _ (by assumption))); done) | fail) (by walk_at "o") (by walk_at "o") (by walk_at "o") ?_); intro _ _ _ _) | ((with_reducible show wpAny _ _ (subscriptTail _ _ (Value.ref _) (Value.int _ _)) _ _ _); k_dflt (refine' Mine.item_strsZ (by first | ((exact News.isList (by k_asm) (by walk_at "mem")); done) | fail) (by first | (((first | assumption | exact StrsAre.nil | exact Mine.strsDrop _ (by assumption))); done) | fail) (by walk_at "o") (by walk_at "o") (by walk_at "o") ?_); intro _) | ((with_reducible show wpAny _ _ (call (Value.builtin _) [Value.ref _, _]) _ _ _); (rename Fr _ _ _ _ => hF'); (rename News _ _ _ _ => hN'); (refine Mine.append_list hF' hN' (by k_upd) ?_ (by walk_at "len")); clear hF' hN'; intro _ _ _) | walk_at "g")
            refine hold_exec (by passes_own) ?_
            intro Q3 E3 HQ3 HE3 PE3
            rename Fr g' L' _ _ => F3
            rename News g' L' _ _ => N3
            obtain ⟨nx3, N3, hmem3, hnx3⟩ : ∃ nx3, News g' L' _ nx3 ∧ (la, listOf va.toArray na) ∈ nx3 ∧ Hid (nx3 = (lu, listOf wu.toArray n2) :: (lm, listOf wm.toArray n1) :: (le, listOf ve.toArray ne) :: (la, listOf va.toArray na) :: st) := ⟨_, N3, (by walk_at "mem"), ⟨rfl⟩⟩
            refine While_inv2 (n₀ := as.length - (j + 1)) (SK as j nx3 (Str.ofString "j") (Str.ofString "actual") (Str.ofString "a") la (Str.ofString "expected") (Str.ofString "i") (Str.ofString "missing") (Str.ofString "unexpected") (Value.ref le) (Value.int (i2 : Int) t2) (Value.ref lm) (Value.ref lu) (fun _ => True)) F3 N3 ?_ ?_ PE3
            · exact ⟨j + 1, _, rfl, rfl, Nat.le_refl _, (by walk_at "o"), rfl, (by with_unfolding_all first | rfl | assumption), (by with_unfolding_all first | rfl | assumption), _, (by with_unfolding_all first | rfl | assumption), (by with_unfolding_all first | rfl | assumption), (by with_unfolding_all first | rfl | assumption), (by with_unfolding_all first | rfl | assumption), (by with_unfolding_all first | rfl | assumption), trivial⟩
            clear F3 N3
            rintro q3 m3 ny h6 tk6 F4 N4 ⟨i3, t3, rfl, hq3, hj3, hi3, hskip3, km0, km1, te, km2, km3, km4, km5, km6, _⟩
            rw [mset km0, mset km1, mset km2, mset km3, mset km4, mset km5, mset km6] at F4
            by_cases hil3 : i3 < as.length
            · (repeat' first | ((with_reducible show wpAny _ _ (call (Value.builtin _) [Value.ref _, Value.ref _]) _ _ _); k_dflt (refine' Mine.extend_own (by k_asm) (by k_asm) (by first | ((walk_at "mem"); done) | fail) (by first | ((k_updF); done) | fail) ?_ (by first | ((walk_at "len"); done) | fail) (by first | ((walk_at "len"); done) | fail)); intro _ _ _ _) | (((with_reducible show wpAny _ _ (subscriptTail _ (PySem.Expr.Slice (some _) none none _) (Value.ref _) (Value.ref _)) _ _ _); (rename Fr _ _ _ _ => hF'); (rename News _ _ _ _ => hN'); k_dflt (refine' Mine.slice_at hF' hN' (by first | ((walk_at "mem"); done) | fail) (by exact IsPart.int _ _) (by exact IsPart.none) (by first | ((exact Mine.pick_from' _ (by walk_at "o")); done) | fail) ?_ (by with_unfolding_all rfl) (by first | ((kmk_pure); done) | fail) (by walk_at "o")); clear hF' hN'; intro _ _ _ _ l1; (try k_lt l1)); (try (revert l1; intro _))) | ((with_reducible show wpAny _ _ (subscriptTail _ _ (Value.ref _) (Value.int _ _)) _ _ _); (rename News _ _ _ _ => hN'); k_dflt (refine' Mine.item_noneC (by exact rfl) (by first | ((exact (hN' _ (by assumption)).1); done) | fail) (by assumption) (by exact rfl) (by first | ((exact News.isList hN' (by walk_at "mem")); done) | fail) (by first | (((first | assumption | exact StrsAre.nil | exact Mine.strsDrop _ (by assumption))); done) | fail) (by walk_at "o") (by walk_at "o") (by walk_at "o") ?_); intro _ _ _ _) | ((with_reducible show wpAny _ _ (subscriptTail _ _ (Value.ref _) (Value.int _ _)) _ _ _); k_dflt (refine' Mine.item_none (by with_unfolding_all rfl) (by first | ((exact News.isList (by k_asm) (by walk_at "mem")); done) | fail) (by first | (((first | assumption | exact StrsAre.nil | exact Mine.strsDrop _ (by assumption))); done) | fail) (by walk_at "o") (by walk_at "o") (by walk_at "o") ?_); intro _ _ _ _) | ((with_reducible show wpAny _ _ (subscriptTail _ _ (Value.ref _) (Value.int _ _)) _ _ _); k_dflt (refine' Mine.item_strsZ (by first | ((exact News.isList (by k_asm) (by walk_at "mem")); done) | fail) (by first | (((first | assumption | exact StrsAre.nil | exact Mine.strsDrop _ (by assumption))); done) | fail) (by walk_at "o") (by walk_at "o") (by walk_at "o") ?_); intro _) | ((with_reducible show wpAny _ _ (call (Value.builtin _) [Value.ref _, _]) _ _ _); (rename Fr _ _ _ _ => hF'); (rename News _ _ _ _ => hN'); (refine Mine.append_list hF' hN' (by k_upd) ?_ (by walk_at "len")); clear hF' hN'; intro _ _ _) | walk_at "g")
              · rename (_ == _) = true => hs9
                rename Fr g' L' _ _ => F5
                rename News g' L' _ _ => N5
                exact ⟨_, _, _, _, as.length - (i3 + 1), rfl, F5, N5, t_dec (by assumption) (by assumption), i3 + 1, _, rfl, rfl, by walk_at "o", by walk_at "o", skip_on hskip3 hil3 hs9, (by with_unfolding_all first | rfl | assumption), (by with_unfolding_all first | rfl | assumption), _, (by with_unfolding_all first | rfl | assumption), (by with_unfolding_all first | rfl | assumption), (by with_unfolding_all first | rfl | assumption), (by with_unfolding_all first | rfl | assumption), (by with_unfolding_all first | rfl | assumption), trivial⟩
              · rename (_ == _) = false => hs9
                have hd3 := skip_off hskip3 hil3 (Bool.eq_false_iff.mp hs9)
                rename Fr g' L' _ _ => F5
                rename News g' L' _ _ => N5
                rw [hnx3.out] at N5
                clear km0 km1 km2 km3 km4 km5 km6 hs9 hskip3 hmem3
                rw [HQ3.out]
                dsimp only
                (repeat' first | ((with_reducible show wpAny _ _ (call (Value.builtin _) [Value.ref _, Value.ref _]) _ _ _); k_dflt (refine' Mine.extend_own (by k_asm) (by k_asm) (by first | ((walk_at "mem"); done) | fail) (by first | ((k_updF); done) | fail) ?_ (by first | ((walk_at "len"); done) | fail) (by first | ((walk_at "len"); done) | fail)); intro _ _ _ _) | (((with_reducible show wpAny _ _ (subscriptTail _ (PySem.Expr.Slice (some _) none none _) (Value.ref _) (Value.ref _)) _ _ _); (rename Fr _ _ _ _ => hF'); (rename News _ _ _ _ => hN'); k_dflt (refine' Mine.slice_at hF' hN' (by first | ((walk_at "mem"); done) | fail) (by exact IsPart.int _ _) (by exact IsPart.none) (by first | ((exact Mine.pick_from' _ (by walk_at "o")); done) | fail) ?_ (by with_unfolding_all rfl) (by first | ((kmk_pure); done) | fail) (by walk_at "o")); clear hF' hN'; intro _ _ _ _ l1; (try k_lt l1)); (try (revert l1; intro _))) | ((with_reducible show wpAny _ _ (subscriptTail _ _ (Value.ref _) (Value.int _ _)) _ _ _); (rename News _ _ _ _ => hN'); k_dflt (refine' Mine.item_noneC (by exact rfl) (by first | ((exact (hN' _ (by assumption)).1); done) | fail) (by assumption) (by exact rfl) (by first | ((exact News.isList hN' (by walk_at "mem")); done) | fail) (by first | (((first | assumption | exact StrsAre.nil | exact Mine.strsDrop _ (by assumption))); done) | fail) (by walk_at "o") (by walk_at "o") (by walk_at "o") ?_); intro _ _ _ _) | ((with_reducible show wpAny _ _ (subscriptTail _ _ (Value.ref _) (Value.int _ _)) _ _ _); k_dflt (refine' Mine.item_none (by with_unfolding_all rfl) (by first | ((exact News.isList (by k_asm) (by walk_at "mem")); done) | fail) (by first | (((first | assumption | exact StrsAre.nil | exact Mine.strsDrop _ (by assumption))); done) | fail) (by walk_at "o") (by walk_at "o") (by walk_at "o") ?_); intro _ _ _ _) | ((with_reducible show wpAny _ _ (subscriptTail _ _ (Value.ref _) (Value.int _ _)) _ _ _); k_dflt (refine' Mine.item_strsZ (by first | ((exact News.isList (by k_asm) (by walk_at "mem")); done) | fail) (by first | (((first | assumption | exact StrsAre.nil | exact Mine.strsDrop _ (by assumption))); done) | fail) (by walk_at "o") (by walk_at "o") (by walk_at "o") ?_); intro _) | ((with_reducible show wpAny _ _ (call (Value.builtin _) [Value.ref _, _]) _ _ _); (rename Fr _ _ _ _ => hF'); (rename News _ _ _ _ => hN'); (refine Mine.append_list hF' hN' (by k_upd) ?_ (by walk_at "len")); clear hF' hN'; intro _ _ _) | walk_at "g")
                rw [HQ.out]
                dsimp only
                (repeat' first | ((with_reducible show wpAny _ _ (call (Value.builtin _) [Value.ref _, Value.ref _]) _ _ _); k_dflt (refine' Mine.extend_own (by k_asm) (by k_asm) (by first | ((walk_at "mem"); done) | fail) (by first | ((k_updF); done) | fail) ?_ (by first | ((walk_at "len"); done) | fail) (by first | ((walk_at "len"); done) | fail)); intro _ _ _ _) | (((with_reducible show wpAny _ _ (subscriptTail _ (PySem.Expr.Slice (some _) none none _) (Value.ref _) (Value.ref _)) _ _ _); (rename Fr _ _ _ _ => hF'); (rename News _ _ _ _ => hN'); k_dflt (refine' Mine.slice_at hF' hN' (by first | ((walk_at "mem"); done) | fail) (by exact IsPart.int _ _) (by exact IsPart.none) (by first | ((exact Mine.pick_from' _ (by walk_at "o")); done) | fail) ?_ (by with_unfolding_all rfl) (by first | ((kmk_pure); done) | fail) (by walk_at "o")); clear hF' hN'; intro _ _ _ _ l1; (try k_lt l1)); (try (revert l1; intro _))) | ((with_reducible show wpAny _ _ (subscriptTail _ _ (Value.ref _) (Value.int _ _)) _ _ _); (rename News _ _ _ _ => hN'); k_dflt (refine' Mine.item_noneC (by exact rfl) (by first | ((exact (hN' _ (by assumption)).1); done) | fail) (by assumption) (by exact rfl) (by first | ((exact News.isList hN' (by walk_at "mem")); done) | fail) (by first | (((first | assumption | exact StrsAre.nil | exact Mine.strsDrop _ (by assumption))); done) | fail) (by walk_at "o") (by walk_at "o") (by walk_at "o") ?_); intro _ _ _ _) | ((with_reducible show wpAny _ _ (subscriptTail _ _ (Value.ref _) (Value.int _ _)) _ _ _); k_dflt (refine' Mine.item_none (by with_unfolding_all rfl) (by first | ((exact News.isList (by k_asm) (by walk_at "mem")); done) | fail) (by first | (((first | assumption | exact StrsAre.nil | exact Mine.strsDrop _ (by assumption))); done) | fail) (by walk_at "o") (by walk_at "o") (by walk_at "o") ?_); intro _ _ _ _) | ((with_reducible show wpAny _ _ (subscriptTail _ _ (Value.ref _) (Value.int _ _)) _ _ _); k_dflt (refine' Mine.item_strsZ (by first | ((exact News.isList (by k_asm) (by walk_at "mem")); done) | fail) (by first | (((first | assumption | exact StrsAre.nil | exact Mine.strsDrop _ (by assumption))); done) | fail) (by walk_at "o") (by walk_at "o") (by walk_at "o") ?_); intro _) | ((with_reducible show wpAny _ _ (call (Value.builtin _) [Value.ref _, _]) _ _ _); (rename Fr _ _ _ _ => hF'); (rename News _ _ _ _ => hN'); (refine Mine.append_list hF' hN' (by k_upd) ?_ (by walk_at "len")); clear hF' hN'; intro _ _ _) | walk_at "g")
                exact ⟨_, _, _, _, (es.length - i2) + (as.length - i3), rfl, F5, N5, t_decB (by assumption) (by assumption) (by assumption) (by assumption) (by assumption), i2, i3, _, _, ms, us, wm, wu, _, _, rfl, rfl, hi2, hi3, hwm, hwu, (sld_eq hsl hil hjl hnl hng hd2 hd3), (by walk_at "o"), (by walk_at "o"), (by with_unfolding_all first | rfl | assumption), (by with_unfolding_all first | rfl | assumption), (by with_unfolding_all first | rfl | assumption), (by with_unfolding_all first | rfl | assumption), (by with_unfolding_all first | rfl | assumption), (by with_unfolding_all first | rfl | assumption)⟩
            · (repeat' first | ((with_reducible show wpAny _ _ (call (Value.builtin _) [Value.ref _, Value.ref _]) _ _ _); k_dflt (refine' Mine.extend_own (by k_asm) (by k_asm) (by first | ((walk_at "mem"); done) | fail) (by first | ((k_updF); done) | fail) ?_ (by first | ((walk_at "len"); done) | fail) (by first | ((walk_at "len"); done) | fail)); intro _ _ _ _) | (((with_reducible show wpAny _ _ (subscriptTail _ (PySem.Expr.Slice (some _) none none _) (Value.ref _) (Value.ref _)) _ _ _); (rename Fr _ _ _ _ => hF'); (rename News _ _ _ _ => hN'); k_dflt (refine' Mine.slice_at hF' hN' (by first | ((walk_at "mem"); done) | fail) (by exact IsPart.int _ _) (by exact IsPart.none) (by first | ((exact Mine.pick_from' _ (by walk_at "o")); done) | fail) ?_ (by with_unfolding_all rfl) (by first | ((kmk_pure); done) | fail) (by walk_at "o")); clear hF' hN'; intro _ _ _ _ l1; (try k_lt l1)); (try (revert l1; intro _))) | ((with_reducible show wpAny _ _ (subscriptTail _ _ (Value.ref _) (Value.int _ _)) _ _ _); (rename News _ _ _ _ => hN'); k_dflt (refine' Mine.item_noneC (by exact rfl) (by first | ((exact (hN' _ (by assumption)).1); done) | fail) (by assumption) (by exact rfl) (by first | ((exact News.isList hN' (by walk_at "mem")); done) | fail) (by first | (((first | assumption | exact StrsAre.nil | exact Mine.strsDrop _ (by assumption))); done) | fail) (by walk_at "o") (by walk_at "o") (by walk_at "o") ?_); intro _ _ _ _) | ((with_reducible show wpAny _ _ (subscriptTail _ _ (Value.ref _) (Value.int _ _)) _ _ _); k_dflt (refine' Mine.item_none (by with_unfolding_all rfl) (by first | ((exact News.isList (by k_asm) (by walk_at "mem")); done) | fail) (by first | (((first | assumption | exact StrsAre.nil | exact Mine.strsDrop _ (by assumption))); done) | fail) (by walk_at "o") (by walk_at "o") (by walk_at "o") ?_); intro _ _ _ _) | ((with_reducible show wpAny _ _ (subscriptTail _ _ (Value.ref _) (Value.int _ _)) _ _ _); k_dflt (refine' Mine.item_strsZ (by first | ((exact News.isList (by k_asm) (by walk_at "mem")); done) | fail) (by first | (((first | assumption | exact StrsAre.nil | exact Mine.strsDrop _ (by assumption))); done) | fail) (by walk_at "o") (by walk_at "o") (by walk_at "o") ?_); intro _) | ((with_reducible show wpAny _ _ (call (Value.builtin _) [Value.ref _, _]) _ _ _); (rename Fr _ _ _ _ => hF'); (rename News _ _ _ _ => hN'); (refine Mine.append_list hF' hN' (by k_upd) ?_ (by walk_at "len")); clear hF' hN'; intro _ _ _) | walk_at "g")
              have hd3 := skip_end hskip3 (by walk_at "o")
              rename Fr g' L' _ _ => F5
              rename News g' L' _ _ => N5
              rw [hnx3.out] at N5
              clear km0 km1 km2 km3 km4 km5 km6 hskip3 hmem3
              have e9 := sld_eq hsl hil hjl hnl hng hd2 hd3
              rw [sld_end (.inr (List.drop_of_length_le (by walk_at "o")))] at e9
              rename Heap.NewExc _ _ _ _ => hx9
              rw [HE3.out, HE.out]
              refine ctx_caught (T' := "IndexError") (Around.frames_deeper B'.stack) (newExcV hx9) F5 N5 B' (by assumption) (by assumption) D' KtsTurn.refl (by k_is) PyProof.Rows.Boot.«IndexError» (by decide) PySem.F.isExc_IndexError PySem.F.notTuple_IndexError (by kts_sub) ?_
              intro h5 g5 H1 F6 N6 H2 H3 H4 H5
              exact key.out _ _ ⟨h5, g5, _, _, i2, i3, _, _, ms, us, wm, wu, n1, n2, rfl, H1, F6, N6, H2, H3, H4, H5, hi2, hi3, hwm, hwu, e9, by walk_at "o", by walk_at "o", (by with_unfolding_all first | rfl | assumption), (by with_unfolding_all first | rfl | assumption), (by with_unfolding_all first | rfl | assumption), (by with_unfolding_all first | rfl | assumption), (by with_unfolding_all first | rfl | assumption), (by with_unfolding_all first | rfl | assumption)⟩
        · (repeat' first | ((with_reducible show wpAny _ _ (call (Value.builtin _) [Value.ref _, Value.ref _]) _ _ _); k_dflt (refine' Mine.extend_own (by k_asm) (by k_asm) (by first | ((walk_at "mem"); done) | fail) (by first | ((k_updF); done) | fail) ?_ (by first | ((walk_at "len"); done) | fail) (by first | ((walk_at "len"); done) | fail)); intro _ _ _ _) | (((with_reducible show wpAny _ _ (subscriptTail _ (PySem.Expr.Slice (some _) none none _) (Value.ref _) (Value.ref _)) _ _ _); (rename Fr _ _ _ _ => hF'); (rename News _ _ _ _ => hN'); k_dflt (refine' Mine.slice_at hF' hN' (by first | ((walk_at "mem"); done) | fail) (by exact IsPart.int _ _) (by exact IsPart.none) (by first | ((exact Mine.pick_from' _ (by walk_at "o")); done) | fail) ?_ (by with_unfolding_all rfl) (by first | ((kmk_pure); done) | fail) (by walk_at "o")); clear hF' hN'; intro _ _ _ _ l1; (try k_lt l1)); (try (revert l1; intro _))) | ((with_reducible show wpAny _ _ (subscriptTail _ _ (Value.ref _) (Value.int _ _)) _ _ _); (rename News _ _ _ _ => hN'); k_dflt (refine' Mine.item_noneC (by exact rfl) (by first | ((exact (hN' _ (by assumption)).1); done) | fail) (by assumption) (by exact rfl) (by first | ((exact News.isList hN' (by walk_at "mem")); done) | fail) (by first | (((first | assumption | exact StrsAre.nil | exact Mine.strsDrop _ (by assumption))); done) | fail) (by walk_at "o") (by walk_at "o") (by walk_at "o") ?_); intro _ _ _ _) | ((with_reducible show wpAny _ _ (subscriptTail _ _ (Value.ref _) (Value.int _ _)) _ _ _); k_dflt (refine' Mine.item_none (by with_unfolding_all rfl) (by first | ((exact News.isList (by k_asm) (by walk_at "mem")); done) | fail) (by first | (((first | assumption | exact StrsAre.nil | exact Mine.strsDrop _ (by assumption))); done) | fail) (by walk_at "o") (by walk_at "o") (by walk_at "o") ?_); intro _ _ _ _) | ((with_reducible show wpAny _ _ (subscriptTail _ _ (Value.ref _) (Value.int _ _)) _ _ _); k_dflt (refine' Mine.item_strsZ (by first | ((exact News.isList (by k_asm) (by walk_at "mem")); done) | fail) (by first | (((first | assumption | exact StrsAre.nil | exact Mine.strsDrop _ (by assumption))); done) | fail) (by walk_at "o") (by walk_at "o") (by walk_at "o") ?_); intro _) | ((with_reducible show wpAny _ _ (call (Value.builtin _) [Value.ref _, _]) _ _ _); (rename Fr _ _ _ _ => hF'); (rename News _ _ _ _ => hN'); (refine Mine.append_list hF' hN' (by k_upd) ?_ (by walk_at "len")); clear hF' hN'; intro _ _ _) | walk_at "g")
          have hd2 := skip_end hskip2 (by walk_at "o")
          rename Fr g' L' _ _ => F5
          rename News g' L' _ _ => N5
          rw [hnx2.out] at N5
          clear km0 km1 km2 km3 km4 km5 km6 hskip2 hmem2
          rename Heap.NewExc _ _ _ _ => hx9
          rename_i x9
          rw [HE2.out]
          refine finally_own (e' := x9) hx9 F5 N5 B' (by assumption) (by assumption) D' KtsTurn.refl ?_
          intro h7 g7 T7 ts7 oe7 t7 K1 F7 N7 K2 K3 K4 K5 hoc hod hts hTe hne
          clear F5 N5
          (repeat' first | ((with_reducible show wpAny _ _ (call (Value.builtin _) [Value.ref _, Value.ref _]) _ _ _); k_dflt (refine' Mine.extend_own (by k_asm) (by k_asm) (by first | ((walk_at "mem"); done) | fail) (by first | ((k_updF); done) | fail) ?_ (by first | ((walk_at "len"); done) | fail) (by first | ((walk_at "len"); done) | fail)); intro _ _ _ _) | (((with_reducible show wpAny _ _ (subscriptTail _ (PySem.Expr.Slice (some _) none none _) (Value.ref _) (Value.ref _)) _ _ _); (rename Fr _ _ _ _ => hF'); (rename News _ _ _ _ => hN'); k_dflt (refine' Mine.slice_at hF' hN' (by first | ((walk_at "mem"); done) | fail) (by exact IsPart.int _ _) (by exact IsPart.none) (by first | ((exact Mine.pick_from' _ (by walk_at "o")); done) | fail) ?_ (by with_unfolding_all rfl) (by first | ((kmk_pure); done) | fail) (by walk_at "o")); clear hF' hN'; intro _ _ _ _ l1; (try k_lt l1)); (try (revert l1; intro _))) | ((with_reducible show wpAny _ _ (subscriptTail _ _ (Value.ref _) (Value.int _ _)) _ _ _); (rename News _ _ _ _ => hN'); k_dflt (refine' Mine.item_noneC (by exact rfl) (by first | ((exact (hN' _ (by assumption)).1); done) | fail) (by assumption) (by exact rfl) (by first | ((exact News.isList hN' (by walk_at "mem")); done) | fail) (by first | (((first | assumption | exact StrsAre.nil | exact Mine.strsDrop _ (by assumption))); done) | fail) (by walk_at "o") (by walk_at "o") (by walk_at "o") ?_); intro _ _ _ _) | ((with_reducible show wpAny _ _ (subscriptTail _ _ (Value.ref _) (Value.int _ _)) _ _ _); k_dflt (refine' Mine.item_none (by with_unfolding_all rfl) (by first | ((exact News.isList (by k_asm) (by walk_at "mem")); done) | fail) (by first | (((first | assumption | exact StrsAre.nil | exact Mine.strsDrop _ (by assumption))); done) | fail) (by walk_at "o") (by walk_at "o") (by walk_at "o") ?_); intro _ _ _ _) | ((with_reducible show wpAny _ _ (subscriptTail _ _ (Value.ref _) (Value.int _ _)) _ _ _); k_dflt (refine' Mine.item_strsZ (by first | ((exact News.isList (by k_asm) (by walk_at "mem")); done) | fail) (by first | (((first | assumption | exact StrsAre.nil | exact Mine.strsDrop _ (by assumption))); done) | fail) (by walk_at "o") (by walk_at "o") (by walk_at "o") ?_); intro _) | ((with_reducible show wpAny _ _ (call (Value.builtin _) [Value.ref _, _]) _ _ _); (rename Fr _ _ _ _ => hF'); (rename News _ _ _ _ => hN'); (refine Mine.append_list hF' hN' (by k_upd) ?_ (by walk_at "len")); clear hF' hN'; intro _ _ _) | walk_at "g")
          refine hold_exec (by passes_own) ?_
          intro Q4 E4 HQ4 HE4 PE4
          rename Fr g7 L' _ _ => F3
          rename News g7 L' _ _ => N3
          obtain ⟨nx4, N3, hmem4, hmx4, hnx4⟩ : ∃ nx3, News g7 L' _ nx3 ∧ (la, listOf va.toArray na) ∈ nx3 ∧ (x9, oe7) ∈ nx3 ∧ Hid (nx3 = (x9, oe7) :: (T7, { cls := .type "traceback", dict := none, data := .fields ts7 }) :: (lu, listOf wu.toArray n2) :: (lm, listOf wm.toArray n1) :: (le, listOf ve.toArray ne) :: (la, listOf va.toArray na) :: st) := ⟨_, N3, (by walk_at "mem"), (by walk_at "mem"), ⟨rfl⟩⟩
          refine While_inv2 (n₀ := as.length - (j + 1)) (SK as j nx4 (Str.ofString "j") (Str.ofString "actual") (Str.ofString "a") la (Str.ofString "expected") (Str.ofString "i") (Str.ofString "missing") (Str.ofString "unexpected") (Value.ref le) (Value.int (i2 : Int) t2) (Value.ref lm) (Value.ref lu) (fun _ => True)) F3 N3 ?_ ?_ PE4
          · exact ⟨j + 1, _, rfl, rfl, Nat.le_refl _, (by walk_at "o"), rfl, (by with_unfolding_all first | rfl | assumption), (by with_unfolding_all first | rfl | assumption), _, (by with_unfolding_all first | rfl | assumption), (by with_unfolding_all first | rfl | assumption), (by with_unfolding_all first | rfl | assumption), (by with_unfolding_all first | rfl | assumption), (by with_unfolding_all first | rfl | assumption), trivial⟩
          clear F3 N3
          rintro q4 m4 ny h6 tk6 F4 N4 ⟨i4, t4, rfl, hq4, hj4, hi4, hskip4, km0, km1, te, km2, km3, km4, km5, km6, _⟩
          rw [mset km0, mset km1, mset km2, mset km3, mset km4, mset km5, mset km6] at F4
          by_cases hil4 : i4 < as.length
          · (repeat' first | ((with_reducible show wpAny _ _ (call (Value.builtin _) [Value.ref _, Value.ref _]) _ _ _); k_dflt (refine' Mine.extend_own (by k_asm) (by k_asm) (by first | ((walk_at "mem"); done) | fail) (by first | ((k_updF); done) | fail) ?_ (by first | ((walk_at "len"); done) | fail) (by first | ((walk_at "len"); done) | fail)); intro _ _ _ _) | (((with_reducible show wpAny _ _ (subscriptTail _ (PySem.Expr.Slice (some _) none none _) (Value.ref _) (Value.ref _)) _ _ _); (rename Fr _ _ _ _ => hF'); (rename News _ _ _ _ => hN'); k_dflt (refine' Mine.slice_at hF' hN' (by first | ((walk_at "mem"); done) | fail) (by exact IsPart.int _ _) (by exact IsPart.none) (by first | ((exact Mine.pick_from' _ (by walk_at "o")); done) | fail) ?_ (by with_unfolding_all rfl) (by first | ((kmk_pure); done) | fail) (by walk_at "o")); clear hF' hN'; intro _ _ _ _ l1; (try k_lt l1)); (try (revert l1; intro _))) | ((with_reducible show wpAny _ _ (subscriptTail _ _ (Value.ref _) (Value.int _ _)) _ _ _); (rename News _ _ _ _ => hN'); k_dflt (refine' Mine.item_noneC (by exact rfl) (by first | ((exact (hN' _ (by assumption)).1); done) | fail) (by assumption) (by exact rfl) (by first | ((exact News.isList hN' (by walk_at "mem")); done) | fail) (by first | (((first | assumption | exact StrsAre.nil | exact Mine.strsDrop _ (by assumption))); done) | fail) (by walk_at "o") (by walk_at "o") (by walk_at "o") ?_); intro _ _ _ _) | ((with_reducible show wpAny _ _ (subscriptTail _ _ (Value.ref _) (Value.int _ _)) _ _ _); k_dflt (refine' Mine.item_none (by with_unfolding_all rfl) (by first | ((exact News.isList (by k_asm) (by walk_at "mem")); done) | fail) (by first | (((first | assumption | exact StrsAre.nil | exact Mine.strsDrop _ (by assumption))); done) | fail) (by walk_at "o") (by walk_at "o") (by walk_at "o") ?_); intro _ _ _ _) | ((with_reducible show wpAny _ _ (subscriptTail _ _ (Value.ref _) (Value.int _ _)) _ _ _); k_dflt (refine' Mine.item_strsZ (by first | ((exact News.isList (by k_asm) (by walk_at "mem")); done) | fail) (by first | (((first | assumption | exact StrsAre.nil | exact Mine.strsDrop _ (by assumption))); done) | fail) (by walk_at "o") (by walk_at "o") (by walk_at "o") ?_); intro _) | ((with_reducible show wpAny _ _ (call (Value.builtin _) [Value.ref _, _]) _ _ _); (rename Fr _ _ _ _ => hF'); (rename News _ _ _ _ => hN'); (refine Mine.append_list hF' hN' (by k_upd) ?_ (by walk_at "len")); clear hF' hN'; intro _ _ _) | walk_at "g")
            · rename (_ == _) = true => hs9
              rename Fr g7 L' _ _ => F5
              rename News g7 L' _ _ => N5
              exact ⟨_, _, _, _, as.length - (i4 + 1), rfl, F5, N5, t_dec (by assumption) (by assumption), i4 + 1, _, rfl, rfl, by walk_at "o", by walk_at "o", skip_on hskip4 hil4 hs9, (by with_unfolding_all first | rfl | assumption), (by with_unfolding_all first | rfl | assumption), _, (by with_unfolding_all first | rfl | assumption), (by with_unfolding_all first | rfl | assumption), (by with_unfolding_all first | rfl | assumption), (by with_unfolding_all first | rfl | assumption), (by with_unfolding_all first | rfl | assumption), trivial⟩
            · rename (_ == _) = false => hs9
              have hd4 := skip_off hskip4 hil4 (Bool.eq_false_iff.mp hs9)
              rename Fr g7 L' _ _ => F5
              rename News g7 L' _ _ => N5
              rw [hnx4.out] at N5
              clear km0 km1 km2 km3 km4 km5 km6 hs9 hskip4 hmem4
              rw [HQ4.out]
              dsimp only
              (first | ((with_reducible show wpAny _ _ (call (Value.builtin _) [Value.ref _, Value.ref _]) _ _ _); k_dflt (refine' Mine.extend_own (by k_asm) (by k_asm) (by first | ((walk_at "mem"); done) | fail) (by first | ((k_updF); done) | fail) ?_ (by first | ((walk_at "len"); done) | fail) (by first | ((walk_at "len"); done) | fail)); intro _ _ _ _) | (((with_reducible show wpAny _ _ (subscriptTail _ (PySem.Expr.Slice (some _) none none _) (Value.ref _) (Value.ref _)) _ _ _); (rename Fr _ _ _ _ => hF'); (rename News _ _ _ _ => hN'); k_dflt (refine' Mine.slice_at hF' hN' (by first | ((walk_at "mem"); done) | fail) (by exact IsPart.int _ _) (by exact IsPart.none) (by first | ((exact Mine.pick_from' _ (by walk_at "o")); done) | fail) ?_ (by with_unfolding_all rfl) (by first | ((kmk_pure); done) | fail) (by walk_at "o")); clear hF' hN'; intro _ _ _ _ l1; (try k_lt l1)); (try (revert l1; intro _))) | ((with_reducible show wpAny _ _ (subscriptTail _ _ (Value.ref _) (Value.int _ _)) _ _ _); (rename News _ _ _ _ => hN'); k_dflt (refine' Mine.item_noneC (by exact rfl) (by first | ((exact (hN' _ (by assumption)).1); done) | fail) (by assumption) (by exact rfl) (by first | ((exact News.isList hN' (by walk_at "mem")); done) | fail) (by first | (((first | assumption | exact StrsAre.nil | exact Mine.strsDrop _ (by assumption))); done) | fail) (by walk_at "o") (by walk_at "o") (by walk_at "o") ?_); intro _ _ _ _) | ((with_reducible show wpAny _ _ (subscriptTail _ _ (Value.ref _) (Value.int _ _)) _ _ _); k_dflt (refine' Mine.item_none (by with_unfolding_all rfl) (by first | ((exact News.isList (by k_asm) (by walk_at "mem")); done) | fail) (by first | (((first | assumption | exact StrsAre.nil | exact Mine.strsDrop _ (by assumption))); done) | fail) (by walk_at "o") (by walk_at "o") (by walk_at "o") ?_); intro _ _ _ _) | ((with_reducible show wpAny _ _ (subscriptTail _ _ (Value.ref _) (Value.int _ _)) _ _ _); k_dflt (refine' Mine.item_strsZ (by first | ((exact News.isList (by k_asm) (by walk_at "mem")); done) | fail) (by first | (((first | assumption | exact StrsAre.nil | exact Mine.strsDrop _ (by assumption))); done) | fail) (by walk_at "o") (by walk_at "o") (by walk_at "o") ?_); intro _) | ((with_reducible show wpAny _ _ (call (Value.builtin _) [Value.ref _, _]) _ _ _); (rename Fr _ _ _ _ => hF'); (rename News _ _ _ _ => hN'); (refine Mine.append_list hF' hN' (by k_upd) ?_ (by walk_at "len")); clear hF' hN'; intro _ _ _) | walk_at "go1")
              dsimp only
              rw [HE.out]
              have e9 := sld_eq hsl hil hjl hnl hng hd2 hd4
              rw [sld_end (.inl (List.drop_of_length_le (by walk_at "o")))] at e9
              refine pass_caught (T' := "IndexError") F5 N5 hoc hod hts hTe hne K2 (by assumption) (by assumption) K5 K1 (by k_is) PyProof.Rows.Boot.«IndexError» (by decide) PySem.F.isExc_IndexError PySem.F.notTuple_IndexError (by kts_sub) ?_
              intro h5 g5 H1 F6 N6 H2 H3 H4 H5
              exact key.out _ _ ⟨h5, g5, _, _, i2, i4, _, _, ms, us, wm, wu, n1, n2, rfl, H1, F6, N6, H2, H3, H4, H5, hi2, hi4, hwm, hwu, e9, by walk_at "o", by walk_at "o", (by with_unfolding_all first | rfl | assumption), (by with_unfolding_all first | rfl | assumption), (by with_unfolding_all first | rfl | assumption), (by with_unfolding_all first | rfl | assumption), (by with_unfolding_all first | rfl | assumption), (by with_unfolding_all first | rfl | assumption)⟩
          · (repeat' first | ((with_reducible show wpAny _ _ (call (Value.builtin _) [Value.ref _, Value.ref _]) _ _ _); k_dflt (refine' Mine.extend_own (by k_asm) (by k_asm) (by first | ((walk_at "mem"); done) | fail) (by first | ((k_updF); done) | fail) ?_ (by first | ((walk_at "len"); done) | fail) (by first | ((walk_at "len"); done) | fail)); intro _ _ _ _) | (((with_reducible show wpAny _ _ (subscriptTail _ (PySem.Expr.Slice (some _) none none _) (Value.ref _) (Value.ref _)) _ _ _); (rename Fr _ _ _ _ => hF'); (rename News _ _ _ _ => hN'); k_dflt (refine' Mine.slice_at hF' hN' (by first | ((walk_at "mem"); done) | fail) (by exact IsPart.int _ _) (by exact IsPart.none) (by first | ((exact Mine.pick_from' _ (by walk_at "o")); done) | fail) ?_ (by with_unfolding_all rfl) (by first | ((kmk_pure); done) | fail) (by walk_at "o")); clear hF' hN'; intro _ _ _ _ l1; (try k_lt l1)); (try (revert l1; intro _))) | ((with_reducible show wpAny _ _ (subscriptTail _ _ (Value.ref _) (Value.int _ _)) _ _ _); (rename News _ _ _ _ => hN'); k_dflt (refine' Mine.item_noneC (by exact rfl) (by first | ((exact (hN' _ (by assumption)).1); done) | fail) (by assumption) (by exact rfl) (by first | ((exact News.isList hN' (by walk_at "mem")); done) | fail) (by first | (((first | assumption | exact StrsAre.nil | exact Mine.strsDrop _ (by assumption))); done) | fail) (by walk_at "o") (by walk_at "o") (by walk_at "o") ?_); intro _ _ _ _) | ((with_reducible show wpAny _ _ (subscriptTail _ _ (Value.ref _) (Value.int _ _)) _ _ _); k_dflt (refine' Mine.item_none (by with_unfolding_all rfl) (by first | ((exact News.isList (by k_asm) (by walk_at "mem")); done) | fail) (by first | (((first | assumption | exact StrsAre.nil | exact Mine.strsDrop _ (by assumption))); done) | fail) (by walk_at "o") (by walk_at "o") (by walk_at "o") ?_); intro _ _ _ _) | ((with_reducible show wpAny _ _ (subscriptTail _ _ (Value.ref _) (Value.int _ _)) _ _ _); k_dflt (refine' Mine.item_strsZ (by first | ((exact News.isList (by k_asm) (by walk_at "mem")); done) | fail) (by first | (((first | assumption | exact StrsAre.nil | exact Mine.strsDrop _ (by assumption))); done) | fail) (by walk_at "o") (by walk_at "o") (by walk_at "o") ?_); intro _) | ((with_reducible show wpAny _ _ (call (Value.builtin _) [Value.ref _, _]) _ _ _); (rename Fr _ _ _ _ => hF'); (rename News _ _ _ _ => hN'); (refine Mine.append_list hF' hN' (by k_upd) ?_ (by walk_at "len")); clear hF' hN'; intro _ _ _) | walk_at "g")
            have hd4 := skip_end hskip4 (by walk_at "o")
            rename Fr g7 L' _ _ => F5
            rename News g7 L' _ _ => N5
            rw [hnx4.out] at N5
            clear km0 km1 km2 km3 km4 km5 km6 hskip4 hmem4
            have e9 := sld_eq hsl hil hjl hnl hng hd2 hd4
            rw [sld_end (.inl (List.drop_of_length_le (by walk_at "o")))] at e9
            rename NewExcC _ _ _ _ _ => hx8
            rw [HE4.out, HE.out]
            refine ctx_caught (T' := "IndexError") (Around.frames_deeper K2.stack) (newExcC hx8) F5 N5 K2 (by assumption) (by assumption) K5 K1 (by k_is) PyProof.Rows.Boot.«IndexError» (by decide) PySem.F.isExc_IndexError PySem.F.notTuple_IndexError (by kts_sub) ?_
            intro h5 g5 H1 F6 N6 H2 H3 H4 H5
            exact key.out _ _ ⟨h5, g5, _, _, i2, i4, _, _, ms, us, wm, wu, n1, n2, rfl, H1, F6, (news_sub N6 (by walk_at "sub")), H2, H3, H4, H5, hi2, hi4, hwm, hwu, e9, by walk_at "o", by walk_at "o", (by with_unfolding_all first | rfl | assumption), (by with_unfolding_all first | rfl | assumption), (by with_unfolding_all first | rfl | assumption), (by with_unfolding_all first | rfl | assumption), (by with_unfolding_all first | rfl | assumption), (by with_unfolding_all first | rfl | assumption)⟩

    · have e9 := hsl
      rw [sld_end (.inr (List.drop_of_length_le (by walk_at "o")))] at e9
      (repeat' first | ((with_reducible show wpAny _ _ (call (Value.builtin _) [Value.ref _, Value.ref _]) _ _ _); k_dflt (refine' Mine.extend_own (by k_asm) (by k_asm) (by first | ((walk_at "mem"); done) | fail) (by first | ((k_updF); done) | fail) ?_ (by first | ((walk_at "len"); done) | fail) (by first | ((walk_at "len"); done) | fail)); intro _ _ _ _) | (((with_reducible show wpAny _ _ (subscriptTail _ (PySem.Expr.Slice (some _) none none _) (Value.ref _) (Value.ref _)) _ _ _); (rename Fr _ _ _ _ => hF'); (rename News _ _ _ _ => hN'); k_dflt (refine' Mine.slice_at hF' hN' (by first | ((walk_at "mem"); done) | fail) (by exact IsPart.int _ _) (by exact IsPart.none) (by first | ((exact Mine.pick_from' _ (by walk_at "o")); done) | fail) ?_ (by with_unfolding_all rfl) (by first | ((kmk_pure); done) | fail) (by walk_at "o")); clear hF' hN'; intro _ _ _ _ l1; (try k_lt l1)); (try (revert l1; intro _))) | ((with_reducible show wpAny _ _ (subscriptTail _ _ (Value.ref _) (Value.int _ _)) _ _ _); (rename News _ _ _ _ => hN'); k_dflt (refine' Mine.item_noneC (by exact rfl) (by first | ((exact (hN' _ (by assumption)).1); done) | fail) (by assumption) (by exact rfl) (by first | ((exact News.isList hN' (by walk_at "mem")); done) | fail) (by first | (((first | assumption | exact StrsAre.nil | exact Mine.strsDrop _ (by assumption))); done) | fail) (by walk_at "o") (by walk_at "o") (by walk_at "o") ?_); intro _ _ _ _) | ((with_reducible show wpAny _ _ (subscriptTail _ _ (Value.ref _) (Value.int _ _)) _ _ _); k_dflt (refine' Mine.item_none (by with_unfolding_all rfl) (by first | ((exact News.isList (by k_asm) (by walk_at "mem")); done) | fail) (by first | (((first | assumption | exact StrsAre.nil | exact Mine.strsDrop _ (by assumption))); done) | fail) (by walk_at "o") (by walk_at "o") (by walk_at "o") ?_); intro _ _ _ _) | ((with_reducible show wpAny _ _ (subscriptTail _ _ (Value.ref _) (Value.int _ _)) _ _ _); k_dflt (refine' Mine.item_strsZ (by first | ((exact News.isList (by k_asm) (by walk_at "mem")); done) | fail) (by first | (((first | assumption | exact StrsAre.nil | exact Mine.strsDrop _ (by assumption))); done) | fail) (by walk_at "o") (by walk_at "o") (by walk_at "o") ?_); intro _) | ((with_reducible show wpAny _ _ (call (Value.builtin _) [Value.ref _, _]) _ _ _); (rename Fr _ _ _ _ => hF'); (rename News _ _ _ _ => hN'); (refine Mine.append_list hF' hN' (by k_upd) ?_ (by walk_at "len")); clear hF' hN'; intro _ _ _) | walk_at "g")
      rename Heap.NewExc _ _ _ _ => hx9
      rename Fr g' L' _ _ => F9
      rename News g' L' _ _ => N9
      refine hx _ _ i j _ _ ms us wm wu _ _ _ _ _ F9 N9 hi hj hwm hwu e9 hz1 hz2 (by with_unfolding_all first | rfl | assumption) (by with_unfolding_all first | rfl | assumption) (by with_unfolding_all first | rfl | assumption) (by with_unfolding_all first | rfl | assumption) (by with_unfolding_all first | rfl | assumption) (by with_unfolding_all first | rfl | assumption) hx9
  · have e9 := hsl
    rw [sld_end (.inl (List.drop_of_length_le (by walk_at "o")))] at e9
    (repeat' first | ((with_reducible show wpAny _ _ (call (Value.builtin _) [Value.ref _, Value.ref _]) _ _ _); k_dflt (refine' Mine.extend_own (by k_asm) (by k_asm) (by first | ((walk_at "mem"); done) | fail) (by first | ((k_updF); done) | fail) ?_ (by first | ((walk_at "len"); done) | fail) (by first | ((walk_at "len"); done) | fail)); intro _ _ _ _) | (((with_reducible show wpAny _ _ (subscriptTail _ (PySem.Expr.Slice (some _) none none _) (Value.ref _) (Value.ref _)) _ _ _); (rename Fr _ _ _ _ => hF'); (rename News _ _ _ _ => hN'); k_dflt (refine' Mine.slice_at hF' hN' (by first | ((walk_at "mem"); done) | fail) (by exact IsPart.int _ _) (by exact IsPart.none) (by first | ((exact Mine.pick_from' _ (by walk_at "o")); done) | fail) ?_ (by with_unfolding_all rfl) (by first | ((kmk_pure); done) | fail) (by walk_at "o")); clear hF' hN'; intro _ _ _ _ l1; (try k_lt l1)); (try (revert l1; intro _))) | ((with_reducible show wpAny _ _ (subscriptTail _ _ (Value.ref _) (Value.int _ _)) _ _ _); (rename News _ _ _ _ => hN'); k_dflt (refine' Mine.item_noneC (by exact rfl) (by first | ((exact (hN' _ (by assumption)).1); done) | fail) (by assumption) (by exact rfl) (by first | ((exact News.isList hN' (by walk_at "mem")); done) | fail) (by first | (((first | assumption | exact StrsAre.nil | exact Mine.strsDrop _ (by assumption))); done) | fail) (by walk_at "o") (by walk_at "o") (by walk_at "o") ?_); intro _ _ _ _) | ((with_reducible show wpAny _ _ (subscriptTail _ _ (Value.ref _) (Value.int _ _)) _ _ _); k_dflt (refine' Mine.item_none (by with_unfolding_all rfl) (by first | ((exact News.isList (by k_asm) (by walk_at "mem")); done) | fail) (by first | (((first | assumption | exact StrsAre.nil | exact Mine.strsDrop _ (by assumption))); done) | fail) (by walk_at "o") (by walk_at "o") (by walk_at "o") ?_); intro _ _ _ _) | ((with_reducible show wpAny _ _ (subscriptTail _ _ (Value.ref _) (Value.int _ _)) _ _ _); k_dflt (refine' Mine.item_strsZ (by first | ((exact News.isList (by k_asm) (by walk_at "mem")); done) | fail) (by first | (((first | assumption | exact StrsAre.nil | exact Mine.strsDrop _ (by assumption))); done) | fail) (by walk_at "o") (by walk_at "o") (by walk_at "o") ?_); intro _) | ((with_reducible show wpAny _ _ (call (Value.builtin _) [Value.ref _, _]) _ _ _); (rename Fr _ _ _ _ => hF'); (rename News _ _ _ _ => hN'); (refine Mine.append_list hF' hN' (by k_upd) ?_ (by walk_at "len")); clear hF' hN'; intro _ _ _) | walk_at "g")
    rename Heap.NewExc _ _ _ _ => hx9
    rename Fr g' L' _ _ => F9
    rename News g' L' _ _ => N9
    refine hx _ _ i j _ _ ms us wm wu _ _ _ _ _ F9 N9 hi hj hwm hwu e9 hz1 hz2 (by with_unfolding_all first | rfl | assumption) (by with_unfolding_all first | rfl | assumption) (by with_unfolding_all first | rfl | assumption) (by with_unfolding_all first | rfl | assumption) (by with_unfolding_all first | rfl | assumption) (by with_unfolding_all first | rfl | assumption) hx9
end
section
section
open PySem.W PyProof.Rows
/-- the run asks below N alone, and ends as R says -/
noncomputable def KOk {α : Type} (N : Nat) (lt : Nat → Nat → Bool) : KasT α → (α → Prop) → Prop
  | .ret a, R => R a
  | .ask i j k, R => i < N ∧ j < N ∧ KOk N lt (k (lt i j)) R
theorem kok_bind {α β : Type} {N : Nat} {lt : Nat → Nat → Bool} {f : α → KasT β} {R : β → Prop} : ∀ (t : KasT α), KOk N lt t (fun a => KOk N lt (f a) R) → KOk N lt (t.bind f) R
  | .ret _, h => h
  | .ask _ _ k, h => ⟨h.1, h.2.1, kok_bind (k _) h.2.2⟩
theorem kok_mono {α : Type} {N : Nat} {lt : Nat → Nat → Bool} {R R' : α → Prop} (hr : ∀ a, R a → R' a) : ∀ (t : KasT α), KOk N lt t R → KOk N lt t R'
  | .ret a, h => hr a h
  | .ask _ _ k, h => ⟨h.1, h.2.1, kok_mono hr (k _) h.2.2⟩
theorem kok_wp {α : Type} {N : Nat} {lt : Nat → Nat → Bool} {R : α → Prop} {Q : α → Shared → Prop} {cmp : Nat → Nat → (Bool → Shared → Prop) → Shared → Prop} (I : Shared → Prop)
    (hc : ∀ i j C s, i < N → j < N → I s → (∀ s', I s' → C (lt i j) s') → cmp i j C s) (hq : ∀ a s', R a → I s' → Q a s') : ∀ (t : KasT α) (s : Shared), KOk N lt t R → I s → t.kasWp cmp Q s
  | .ret a, s, h, hi => hq a s h hi
  | .ask i j k, s, h, hi => hc i j _ s h.1 h.2.1 hi fun s' hi' => kok_wp I hc hq (k _) s' h.2.2 hi'
noncomputable def lx (key : Nat → Nat) (x y : Nat) : Prop := key x < key y ∨ (key x = key y ∧ x < y)
theorem lx_trans {key : Nat → Nat} {x y z : Nat} (a : lx key x y) (b : lx key y z) : lx key x z := by
  rcases a with a | ⟨a, a'⟩ <;> rcases b with b | ⟨b, b'⟩
  · exact .inl (Nat.lt_trans a b)
  · exact .inl (b ▸ a)
  · exact .inl (a ▸ b)
  · exact .inr ⟨a.trans b, Nat.lt_trans a' b'⟩
theorem rv_lt {i j k : Nat} (hi : i ≤ k) (hk : k < j) : i + j - 1 - k < j :=
  Nat.sub_lt_left_of_lt_add (Nat.le_sub_one_of_lt (Nat.lt_of_lt_of_le hk (Nat.le_add_left j i)))
    (Nat.lt_of_lt_of_le (Nat.sub_lt (Nat.lt_of_lt_of_le (Nat.zero_lt_of_lt hk) (Nat.le_add_left j i)) Nat.one_pos) (Nat.add_le_add_right hi j))
theorem rv_ge {i j k : Nat} (hk : k < j) : i ≤ i + j - 1 - k := Nat.le_sub_of_add_le (Nat.le_sub_one_of_lt (Nat.add_lt_add_left hk i))
theorem rv_rv {i j a b : Nat} (h : a < b) (hb : b < j) : i + j - 1 - b < i + j - 1 - a :=
  Nat.sub_lt_sub_left (Nat.lt_of_lt_of_le h (Nat.le_sub_one_of_lt (Nat.lt_of_lt_of_le hb (Nat.le_add_left j i)))) h
theorem pr_lt {i m : Nat} (h : i < m) : m - 1 < m := Nat.sub_lt (Nat.zero_lt_of_lt h) Nat.one_pos
theorem pr_le {m : Nat} (q : Nat) : m - (q + 1) ≤ m - 1 := Nat.sub_le_sub_left (Nat.succ_le_succ (Nat.zero_le q)) m
noncomputable def gp (p : Array Nat) (i : Nat) : Nat := p.getD i 0
theorem gp_eq {p q : Array Nat} {i j : Nat} (h : p[i]? = q[j]?) : gp p i = gp q j := by
  unfold gp
  rw [Array.getD_eq_getD_getElem?, Array.getD_eq_getD_getElem?, h]
theorem gp_rev {p : Array Nat} {i j : Nat} (hj : j ≤ p.size) (k : Nat) : gp (kas_rev p i j) k = if i ≤ k ∧ k < j then gp p (i + j - 1 - k) else gp p k := by
  have h := getElem?_mirror_all (i := i) hj k
  split at h <;> rename_i c
  · rw [if_pos c]; exact gp_eq h
  · rw [if_neg c]; exact gp_eq h
theorem gp_bub {p : Array Nat} {k l : Nat} (hk : k < p.size) (hl : l ≤ k) (j : Nat) : gp (bubble p k (k - l)) j = if j = l then gp p k else if l < j ∧ j ≤ k then gp p (j - 1) else gp p j := by
  have h := getElem?_bubble hk (k - l) (Nat.sub_le _ _) j
  rw [Nat.sub_sub_self hl] at h
  split at h <;> rename_i c
  · rw [if_pos c]; exact gp_eq h
  · rw [if_neg c]
    split at h <;> rename_i c2
    · rw [if_pos c2]; exact gp_eq h
    · rw [if_neg c2]; exact gp_eq h
structure PS (N : Nat) (p : Array Nat) (n : Nat) : Prop where
  size : p.size = N
  perm : p.Perm (List.range N).toArray
  lo : ∀ k, k < n → gp p k < n
  hi : ∀ k, n ≤ k → k < N → gp p k = k
theorem PS.succ {N n : Nat} {p : Array Nat} (h : PS N p n) (hn : n < N) : PS N p (n + 1) := ⟨h.size, h.perm, fun k hk => by
  by_cases c : k < n
  · have := h.lo k c; walk_at "o"
  · have := h.hi k (by walk_at "o") (by walk_at "o"); walk_at "o", fun k h1 h2 => h.hi k (by walk_at "o") h2⟩
theorem PS.rev {N n i j : Nat} {p : Array Nat} (h : PS N p n) (hj : j ≤ n) (hn : n ≤ N) : PS N (kas_rev p i j) n := by
  have hz : j ≤ p.size := by rw [h.size]; walk_at "o"
  refine ⟨(mirror_size _ _ _ _).trans h.size, (mirror_perm _ _ _ _).trans h.perm, fun k hk => ?_, fun k h1 h2 => ?_⟩
  · rw [gp_rev hz]
    split
    · rename_i c
      exact h.lo _ (Nat.lt_of_lt_of_le (rv_lt c.1 c.2) hj)
    · exact h.lo _ hk
  · rw [gp_rev hz, if_neg (by walk_at "o")]
    exact h.hi k h1 h2
variable {N : Nat} {key : Nat → Nat}
noncomputable def ltk (key : Nat → Nat) (i j : Nat) : Bool := decide (key i < key j)
noncomputable def Asc (key : Nat → Nat) (p : Array Nat) (n : Nat) : Prop := ∀ i j, i < j → j < n → lx key (gp p i) (gp p j)
theorem ps_lt {p : Array Nat} {n k : Nat} (h : PS N p n) (hn : n ≤ N) (hk : k < N) : gp p k < N := by
  by_cases c : k < n
  · have := h.lo k c; walk_at "o"
  · rw [h.hi k (by walk_at "o") hk]; exact hk
theorem kok_if {α : Type} {lt : Nat → Nat → Bool} {b : Bool} {T₁ T₂ : KasT α} {R : α → Prop} (h : b = true → KOk N lt T₁ R) (h' : b = false → KOk N lt T₂ R) : KOk N lt (if b = true then T₁ else T₂) R := by
  cases b with
  | true => rw [if_pos rfl]; exact h rfl
  | false => rw [if_neg (by decide)]; exact h' rfl
theorem kok_asc {p : Array Nat} : ∀ (f n : Nat), PS N p n → Asc key p n → 1 ≤ n → n + f ≤ N →
    KOk N (ltk key) (kas_asc p f n) (fun m => n ≤ m ∧ m ≤ n + f ∧ Asc key p m ∧ PS N p m ∧ (m = n + f ∨ key (gp p m) < key (gp p (m - 1))))
  | 0, n, h, ha, _, _ => ⟨Nat.le_refl _, Nat.le_refl _, ha, h, .inl rfl⟩
  | f + 1, n, h, ha, h1, hf => by
    refine ⟨ps_lt h (by walk_at "o") (by walk_at "o"), ps_lt h (by walk_at "o") (by walk_at "o"), ?_⟩
    refine kok_if (fun c => ?_) (fun c => ?_)
    · replace c : key (gp p n) < key (gp p (n - 1)) := of_decide_eq_true c
      exact ⟨Nat.le_refl _, by walk_at "o", ha, h, .inr c⟩
    · replace c : ¬ key (gp p n) < key (gp p (n - 1)) := of_decide_eq_false c
      refine kok_mono (fun m hm => ⟨by walk_at "o", by walk_at "o", hm.2.2.1, hm.2.2.2.1, by have := hm.2.2.2.2; walk_at "o"⟩) _ (kok_asc f (n + 1) (h.succ (by walk_at "o")) ?_ (by walk_at "o") (by walk_at "o"))
      have last : lx key (gp p (n - 1)) (gp p n) := by
        have e := h.hi n (Nat.le_refl _) (by walk_at "o")
        have e2 := h.lo (n - 1) (by walk_at "o")
        unfold lx; walk_at "o"
      intro i j hij hj
      by_cases cj : j < n
      · exact ha i j hij cj
      · have ej : j = n := by walk_at "o"
        subst ej
        by_cases ci : i = j - 1
        · subst ci; exact last
        · exact lx_trans (ha i (j - 1) (by walk_at "o") (by walk_at "o")) last
structure Dsc (N : Nat) (key : Nat → Nat) (p : Array Nat) (m q : Nat) : Prop where
  ps : PS N p m
  qm : q + 1 ≤ m
  one : ∀ i j, i < j → j < m - (q + 1) → lx key (gp p j) (gp p i)
  two : ∀ i j, i < m - (q + 1) → m - (q + 1) ≤ j → j < m → key (gp p j) < key (gp p i)
  three : ∀ i j, m - (q + 1) ≤ i → i < j → j < m → key (gp p i) = key (gp p j) ∧ gp p i < gp p j
noncomputable def Des (key : Nat → Nat) (p : Array Nat) (n : Nat) : Prop := ∀ i j, i < j → j < n → lx key (gp p j) (gp p i)
/-- the last group turned about: all falls -/
theorem Dsc.turn {p : Array Nat} {m q : Nat} (h : Dsc N key p m q) (hm : m ≤ N) : Des key (if q > 0 then kas_rev p (m - (q + 1)) m else p) m ∧ PS N (if q > 0 then kas_rev p (m - (q + 1)) m else p) m ∧
    (∀ i, i < m → key (gp p (m - 1)) ≤ key (gp (if q > 0 then kas_rev p (m - (q + 1)) m else p) i)) := by
  have hq := h.qm
  by_cases c : q > 0
  · rw [if_pos c]
    have hz : m ≤ p.size := by rw [h.ps.size]; exact hm
    refine ⟨fun i j hij hj => ?_, h.ps.rev (Nat.le_refl _) hm, fun i hi => ?_⟩
    · rw [gp_rev hz, gp_rev hz]
      by_cases c1 : j < m - (q + 1)
      · rw [if_neg (by walk_at "o"), if_neg (by walk_at "o")]
        exact h.one i j hij c1
      · rw [if_pos (by walk_at "o")]
        by_cases c2 : i < m - (q + 1)
        · rw [if_neg (by walk_at "o")]
          exact .inl (h.two _ _ c2 (rv_ge hj) (rv_lt (Nat.not_lt.mp c1) hj))
        · rw [if_pos (by walk_at "o")]
          exact .inr (h.three (m - (q + 1) + m - 1 - j) (m - (q + 1) + m - 1 - i) (rv_ge hj) (rv_rv hij hj) (rv_lt (Nat.not_lt.mp c2) (Nat.lt_trans hij hj)))
    · rw [gp_rev hz]
      by_cases c1 : i < m - (q + 1)
      · rw [if_neg (by walk_at "o")]
        exact Nat.le_of_lt (h.two i (m - 1) c1 (pr_le q) (pr_lt hi))
      · rw [if_pos (by walk_at "o")]
        by_cases c2 : m - (q + 1) + m - 1 - i = m - 1
        · rw [c2]; exact Nat.le_refl _
        · exact Nat.le_of_eq (h.three _ (m - 1) (rv_ge hi) (Nat.lt_of_le_of_ne (Nat.le_sub_one_of_lt (rv_lt (Nat.not_lt.mp c1) hi)) c2) (pr_lt hi)).1.symm
  · rw [if_neg c]
    have q0 : q = 0 := by walk_at "o"
    subst q0
    refine ⟨fun i j hij hj => ?_, h.ps, fun i hi => ?_⟩
    · by_cases c1 : j < m - 1
      · exact h.one i j hij c1
      · exact .inl (h.two i j (Nat.lt_of_lt_of_le hij (Nat.le_sub_one_of_lt hj)) (Nat.not_lt.mp c1) hj)
    · by_cases c2 : i = m - 1
      · subst c2; exact Nat.le_refl _
      · exact Nat.le_of_lt (h.two i (m - 1) (Nat.lt_of_le_of_ne (Nat.le_sub_one_of_lt hi) c2) (Nat.le_refl _) (pr_lt hi))
theorem dsc_new {p : Array Nat} {m : Nat} (ps : PS N p m) (hm : m < N) (d : Des key p m) (hk : ∀ i, i < m → key (gp p m) < key (gp p i)) : Dsc N key p (m + 1) 0 :=
  ⟨ps.succ hm, by walk_at "o", fun i j h1 h2 => d i j h1 (by walk_at "o"), fun i j h1 h2 h3 => by
    have : j = m := by walk_at "o"
    subst this; exact hk i (by walk_at "o"), fun i j h1 h2 h3 => by walk_at "o"⟩
theorem kok_desc : ∀ (f : Nat) (p : Array Nat) (m q : Nat), Dsc N key p m q → m + f ≤ N → KOk N (ltk key) (kas_desc f p m q) (fun r => Dsc N key r.1 r.2.1 r.2.2 ∧ m ≤ r.2.1 ∧ r.2.1 ≤ m + f)
  | 0, p, m, q, h, _ => ⟨h, Nat.le_refl _, Nat.le_refl _⟩
  | f + 1, p, m, q, h, hf => by
    have hq := h.qm
    have hmN : m < N := Nat.lt_of_lt_of_le (Nat.lt_add_of_pos_right (Nat.succ_pos f)) hf
    have hmN' : m ≤ N := Nat.le_of_lt hmN
    have hpN : m - 1 < N := Nat.lt_of_le_of_lt (Nat.sub_le _ _) hmN
    refine ⟨ps_lt h.ps hmN' hmN, ps_lt h.ps hmN' hpN, ?_⟩
    refine kok_if (fun c => ?_) (fun c => ?_)
    · replace c : key (gp p m) < key (gp p (m - 1)) := of_decide_eq_true c
      obtain ⟨d, ps, hk⟩ := h.turn hmN'
      have new : Dsc N key (if q > 0 then kas_rev p (m - (q + 1)) m else p) (m + 1) 0 := by
        refine dsc_new ps hmN d fun i hi => ?_
        have e : gp (if q > 0 then kas_rev p (m - (q + 1)) m else p) m = gp p m := (ps.hi m (Nat.le_refl _) hmN).trans (h.ps.hi m (Nat.le_refl _) hmN).symm
        rw [e]
        exact Nat.lt_of_lt_of_le c (hk i hi)
      split
      · rename_i c2
        rw [if_pos c2] at new
        exact kok_mono (fun r hr => ⟨hr.1, by walk_at "o", by walk_at "o"⟩) _ (kok_desc f _ (m + 1) 0 new (by walk_at "o"))
      · rename_i c2
        rw [if_neg c2] at new
        exact kok_mono (fun r hr => ⟨hr.1, by walk_at "o", by walk_at "o"⟩) _ (kok_desc f _ (m + 1) 0 new (by walk_at "o"))
    · replace c : ¬ key (gp p m) < key (gp p (m - 1)) := of_decide_eq_false c
      refine ⟨ps_lt h.ps hmN' hpN, ps_lt h.ps hmN' hmN, ?_⟩
      refine kok_if (fun c2 => ?_) (fun c2 => ?_)
      · replace c2 : key (gp p (m - 1)) < key (gp p m) := of_decide_eq_true c2
        exact ⟨h, Nat.le_refl _, Nat.le_add_right _ _⟩
      · replace c2 : ¬ key (gp p (m - 1)) < key (gp p m) := of_decide_eq_false c2
        refine kok_mono (fun r hr => ⟨hr.1, by walk_at "o", by walk_at "o"⟩) _ (kok_desc f p (m + 1) (q + 1) ⟨h.ps.succ (by walk_at "o"), by walk_at "o", fun i j h1 h2 => h.one i j h1 (by walk_at "o"), fun i j h1 h2 h3 => ?_, fun i j h1 h2 h3 => ?_⟩ (by walk_at "o"))
        · by_cases cj : j < m
          · exact h.two i j (by walk_at "o") (by walk_at "o") cj
          · have ej : j = m := by walk_at "o"
            subst ej
            have := h.two i (j - 1) (by walk_at "o") (pr_le q) (pr_lt hq)
            walk_at "o"
        · by_cases cj : j < m
          · exact h.three i j (by walk_at "o") h2 cj
          · have ej : j = m := by walk_at "o"
            subst ej
            have e1 := h.ps.hi j (Nat.le_refl _) (by walk_at "o")
            have e2 := h.ps.lo i h2
            refine ⟨?_, by walk_at "o"⟩
            by_cases ci : i = j - 1
            · subst ci; walk_at "o"
            · have := (h.three i (j - 1) (by walk_at "o") (Nat.lt_of_le_of_ne (Nat.le_sub_one_of_lt h2) ci) (pr_lt h2)).1
              walk_at "o"
theorem kok_tail3 {p : Array Nat} {n nrem : Nat} (ps : PS N p n) (d : Des key p n) (h1 : 1 ≤ n) (hn : n ≤ nrem) (hN : nrem ≤ N) : KOk N (ltk key) (kas_tail3 n nrem p) (fun r => 1 ≤ r.1 ∧ r.1 ≤ nrem ∧ Asc key r.2 r.1 ∧ PS N r.2 r.1) := by
  have hz : n ≤ p.size := by rw [ps.size]; walk_at "o"
  refine kok_bind _ (kok_mono (fun m hm => ?_) _ (kok_asc (nrem - n) n (ps.rev (i := 0) (Nat.le_refl _) (by walk_at "o")) (fun i j hij hj => ?_) h1 (by walk_at "o")))
  · exact ⟨by walk_at "o", by walk_at "o", hm.2.2.1, hm.2.2.2.1⟩
  · rw [gp_rev hz, gp_rev hz, if_pos ⟨Nat.zero_le _, Nat.lt_trans hij hj⟩, if_pos ⟨Nat.zero_le _, hj⟩]
    exact d _ _ (rv_rv hij hj) (rv_lt (Nat.zero_le _) (Nat.lt_trans hij hj))
theorem kok_descPart {p : Array Nat} {n nrem : Nat} (ps : PS N p n) (d : Des key p n) (hk : ∀ i, i < n → key (gp p n) < key (gp p i)) (h1 : 1 ≤ n) (hn : n < nrem) (hN : nrem ≤ N) : KOk N (ltk key) (kas_descPart n nrem p) (fun r => 1 ≤ r.1 ∧ r.1 ≤ nrem ∧ Asc key r.2 r.1 ∧ PS N r.2 r.1) := by
  have es : n + 1 + (nrem - (n + 1)) = nrem := Nat.add_sub_cancel' hn
  refine kok_bind _ (kok_mono (fun r hr => ?_) _ (kok_desc (nrem - (n + 1)) p (n + 1) 0 (dsc_new ps (Nat.lt_of_lt_of_le hn hN) d hk) (Nat.le_trans (Nat.le_of_eq es) hN)))
  obtain ⟨hd, h2, h3⟩ := hr
  rw [es] at h3
  have h2' : 1 ≤ r.2.1 := Nat.le_trans (Nat.succ_le_succ (Nat.zero_le n)) h2
  obtain ⟨e1, e2, _⟩ := hd.turn (Nat.le_trans h3 hN)
  split
  · rename_i c
    rw [if_pos c] at e1 e2
    exact kok_tail3 e2 e1 h2' h3 hN
  · rename_i c
    rw [if_neg c] at e1 e2
    exact kok_tail3 e2 e1 h2' h3 hN
theorem gp_range (k : Nat) (hk : k < N) : gp (List.toArray (List.range N)) k = k := by
  unfold gp
  simp [Array.getD, hk]
theorem kok_count (h2 : 2 ≤ N) : KOk N (ltk key) (kas_count N (List.toArray (List.range N))) (fun r => 1 ≤ r.1 ∧ r.1 ≤ N ∧ Asc key r.2 r.1 ∧ PS N r.2 r.1) := by
  have p1 : PS N (List.toArray (List.range N)) 1 := ⟨by simp, Array.Perm.refl _, fun k hk => by rw [gp_range k (by walk_at "o")]; exact hk, fun k h1 h2 => gp_range k h2⟩
  refine kok_bind _ (kok_mono (fun n hn => ?_) _ (kok_asc (N - 1) 1 p1 (fun i j h1 h2 => by walk_at "o") (Nat.le_refl _) (by walk_at "o")))
  obtain ⟨h1, h3, ha, ps, hl⟩ := hn
  have es : 1 + (N - 1) = N := Nat.add_sub_cancel' (Nat.le_trans (Nat.le_succ 1) h2)
  rw [es] at h3 hl
  split
  · exact ⟨h1, h3, ha, ps⟩
  · rename_i c
    have hne : n < N := by
      exact Nat.lt_of_le_of_ne h3 fun e => c (by rw [e]; exact beq_self_eq_true _)
    have hl' : key (gp (List.toArray (List.range N)) n) < key (gp (List.toArray (List.range N)) (n - 1)) := by
      rcases hl with e | e
      · exact absurd e (Nat.ne_of_lt hne)
      · exact e
    split
    · rename_i c1
      refine ⟨ps_lt ps (by walk_at "o") (by walk_at "o"), ps_lt ps (by walk_at "o") (by walk_at "o"), ?_⟩
      refine kok_if (fun c2 => ?_) (fun c2 => ?_)
      · replace c2 : key (gp (List.toArray (List.range N)) 0) < key (gp (List.toArray (List.range N)) (n - 1)) := of_decide_eq_true c2
        exact ⟨h1, by walk_at "o", ha, ps⟩
      · replace c2 : ¬ key (gp (List.toArray (List.range N)) 0) < key (gp (List.toArray (List.range N)) (n - 1)) := of_decide_eq_false c2
        have hz : n ≤ (List.toArray (List.range N)).size := by simp; walk_at "o"
        have same : ∀ i, i < n → key (gp (List.toArray (List.range N)) i) = key (gp (List.toArray (List.range N)) (n - 1)) := fun i hi => by
          have a1 : i = 0 ∨ lx key (gp (List.toArray (List.range N)) 0) (gp (List.toArray (List.range N)) i) := by
            by_cases e : i = 0
            · exact .inl e
            · exact .inr (ha 0 i (by walk_at "o") hi)
          have a2 : i = n - 1 ∨ lx key (gp (List.toArray (List.range N)) i) (gp (List.toArray (List.range N)) (n - 1)) := by
            by_cases e : i = n - 1
            · exact .inl e
            · exact .inr (ha i (n - 1) (by walk_at "o") (by walk_at "o"))
          have a3 := ha 0 (n - 1) (by walk_at "o") (by walk_at "o")
          unfold lx at a1 a2 a3
          rcases a1 with rfl | a1
          · walk_at "o"
          · rcases a2 with rfl | a2
            · rfl
            · walk_at "o"
        refine kok_descPart (ps.rev (Nat.le_refl _) (by walk_at "o")) (fun i j hij hj => ?_) (fun i hi => ?_) h1 hne (Nat.le_refl _)
        · rw [gp_rev hz, gp_rev hz, if_pos (by walk_at "o"), if_pos (by walk_at "o")]
          exact ha _ _ (by walk_at "o") (by walk_at "o")
        · rw [gp_rev hz, gp_rev hz, if_neg (by walk_at "o"), if_pos (by walk_at "o"), same (0 + n - 1 - i) (by walk_at "o")]
          exact hl'
    · rename_i c1
      have e : n = 1 := by walk_at "o"
      subst e
      refine kok_descPart ps (fun i j hij hj => by walk_at "o") (fun i hi => ?_) (Nat.le_refl _) hne (Nat.le_refl _)
      have : i = 0 := by walk_at "o"
      subst this
      exact hl'
theorem kok_place {p : Array Nat} {k : Nat} (ps : PS N p k) (ha : Asc key p k) (hk : k < N) : ∀ (f l r : Nat), r - l ≤ f → l ≤ r → r ≤ k → (∀ i, i < l → lx key (gp p i) (gp p k)) → (∀ i, r ≤ i → i < k → lx key (gp p k) (gp p i)) →
    KOk N (ltk key) (kas_place p k f l r) (fun l' => l' ≤ k ∧ (∀ i, i < l' → lx key (gp p i) (gp p k)) ∧ (∀ i, l' ≤ i → i < k → lx key (gp p k) (gp p i)))
  | 0, l, r, hf, hl, hr, h1, h2 => ⟨by walk_at "o", h1, fun i a b => h2 i (by walk_at "o") b⟩
  | f + 1, l, r, hf, hl, hr, h1, h2 => by
    unfold kas_place
    split
    · exact ⟨by walk_at "o", h1, fun i a b => h2 i (by walk_at "o") b⟩
    · rename_i c
      refine ⟨ps_lt ps (by walk_at "o") (by walk_at "o"), ps_lt ps (by walk_at "o") (by walk_at "o"), ?_⟩
      have hm1 : l ≤ (l + r) / 2 := by walk_at "o"
      have hm2 : (l + r) / 2 < r := by walk_at "o"
      refine kok_if (fun c2 => ?_) (fun c2 => ?_)
      · replace c2 : key (gp p k) < key (gp p ((l + r) / 2)) := of_decide_eq_true c2
        refine kok_place ps ha hk f l _ (Nat.le_of_lt_succ (Nat.lt_of_lt_of_le (Nat.sub_lt_sub_right hm1 hm2) hf)) hm1 (Nat.le_trans (Nat.le_of_lt hm2) hr) h1 fun i a b => ?_
        by_cases e : i = (l + r) / 2
        · subst e; exact .inl c2
        · exact lx_trans (.inl c2) (ha _ i (by walk_at "o") b)
      · replace c2 : ¬ key (gp p k) < key (gp p ((l + r) / 2)) := of_decide_eq_false c2
        have e1 := ps.hi k (Nat.le_refl _) hk
        have e2 := ps.lo ((l + r) / 2) (by walk_at "o")
        have e3 : lx key (gp p ((l + r) / 2)) (gp p k) := by unfold lx; walk_at "o"
        refine kok_place ps ha hk f _ r (Nat.le_trans (Nat.sub_le_sub_left (Nat.succ_le_succ hm1) r) (Nat.sub_le_sub_right hf 1)) hm2 hr (fun i a => ?_) h2
        by_cases e : i = (l + r) / 2
        · subst e; exact e3
        · exact lx_trans (ha i _ (by walk_at "o") (by walk_at "o")) e3
theorem kok_bin : ∀ (f : Nat) (p : Array Nat) (k : Nat), PS N p k → Asc key p k → 1 ≤ k → k + f ≤ N → KOk N (ltk key) (kas_bin f p k) (fun q => Asc key q (k + f) ∧ PS N q (k + f))
  | 0, p, k, ps, ha, _, _ => ⟨ha, ps⟩
  | f + 1, p, k, ps, ha, h1, hf => by
    refine kok_bind _ (kok_mono (fun l hl => ?_) _ (kok_place ps ha (by walk_at "o") k 0 k (by walk_at "o") (Nat.zero_le _) (Nat.le_refl _) (fun i h => by walk_at "o") fun i a b => by walk_at "o"))
    obtain ⟨hlk, h2, h3⟩ := hl
    have hz : k < p.size := by rw [ps.size]; walk_at "o"
    have g := gp_bub hz hlk
    rw [show k + (f + 1) = (k + 1) + f by walk_at "o"]
    refine kok_bin f _ (k + 1) ⟨(bubble_size _ _ _).trans ps.size, (bubble_perm _ _ _).trans ps.perm, fun j hj => ?_, fun j a b => ?_⟩ (fun i j hij hj => ?_) (by walk_at "o") (by walk_at "o")
    · rw [g]
      have e1 := ps.hi k (Nat.le_refl _) (by walk_at "o")
      split
      · walk_at "o"
      · split
        · rename_i c
          exact Nat.lt_succ_of_lt (ps.lo (j - 1) (Nat.lt_of_lt_of_le (pr_lt c.1) c.2))
        · have := ps.lo j (by walk_at "o"); walk_at "o"
    · rw [g, if_neg (by walk_at "o"), if_neg (by walk_at "o")]
      exact ps.hi j (by walk_at "o") b
    · rw [g, g]
      by_cases ci : i < l
      · rw [if_neg (by walk_at "o" : ¬ i = l), if_neg (by walk_at "o" : ¬ (l < i ∧ i ≤ k))]
        split
        · exact h2 i ci
        · split
          · rename_i c
            exact ha i (j - 1) (Nat.lt_of_lt_of_le ci (Nat.le_sub_one_of_lt c.1)) (Nat.lt_of_lt_of_le (pr_lt c.1) c.2)
          · exact ha i j hij (by walk_at "o")
      · by_cases ci2 : i = l
        · rw [if_pos ci2, if_neg (by walk_at "o"), if_pos (by walk_at "o")]
          exact h3 (j - 1) (Nat.le_sub_one_of_lt (ci2 ▸ hij)) (Nat.lt_of_lt_of_le (pr_lt hij) (Nat.le_of_lt_succ hj))
        · rw [if_neg ci2, if_pos (by walk_at "o"), if_neg (by walk_at "o"), if_pos (by walk_at "o")]
          exact ha (i - 1) (j - 1) (Nat.sub_lt_sub_right (Nat.lt_of_le_of_lt (Nat.zero_le l) (Nat.lt_of_le_of_ne (Nat.not_lt.mp ci) (Ne.symm ci2))) hij) (Nat.lt_of_lt_of_le (pr_lt hij) (Nat.le_of_lt_succ hj))
/-- the sort is stable -/
theorem kok_sort (h2 : 2 ≤ N) : KOk N (ltk key) (kas_sort N) (fun p => p.size = N ∧ p.Perm (List.range N).toArray ∧ Asc key p N) := by
  refine kok_bind _ (kok_mono (fun r hr => ?_) _ (kok_count h2))
  obtain ⟨h1, h3, ha, ps⟩ := hr
  split
  · rename_i c
    rw [Nat.max_eq_left h1]
    refine kok_mono (fun q hq => ?_) _ (kok_bin (N - r.1) r.2 r.1 ps ha h1 (by walk_at "o"))
    rw [show r.1 + (N - r.1) = N by walk_at "o"] at hq
    exact ⟨hq.2.size, hq.2.perm, hq.1⟩
  · rename_i c
    have e : r.1 = N := by walk_at "o"
    rw [e] at ha
    exact ⟨ps.size, ps.perm, ha⟩
end
end
section
theorem tabs_of {h : Heap} {P : Params} (X : (hx.heap_1 P).In h) : TabsAt [(34, 30), (83, 79), (119, 117)] h :=
  List.forall_mem_cons.mpr ⟨⟨codeHd_of_K (c := 34) (P := 30) X (by kernel_rfl), X 30 _ rfl⟩, List.forall_mem_cons.mpr ⟨⟨codeHd_of_K (c := 83) (P := 79) X (by kernel_rfl), X 79 _ rfl⟩, List.forall_mem_cons.mpr ⟨⟨codeHd_of_K (c := 119) (P := 117) X (by kernel_rfl), X 117 _ rfl⟩, fun _ h => nomatch h⟩⟩⟩
noncomputable def pickK (l : List Nat) (K : Frag) : Frag := l.filterMap fun a => (K.lookup a).map fun o => (a, o)
theorem pickK_in {l : List Nat} {K : Frag} {h : Heap} (X : K.In h) : (pickK l K).In h := fun a o e => by
  obtain ⟨b, _, hb⟩ := List.mem_filterMap.mp (mem_of_lookupK e)
  obtain ⟨o', h1, h2⟩ := Option.map_eq_some_iff.mp hb
  cases h2
  exact X _ _ h1
theorem kx_of {h : Heap} {P : Params} (X : (hx.heap_1 P).In h) : (hd.heap_1 P).In h := by
  rw [show hd.heap_1 P = pickK ((hd.heap_1 P).map Prod.fst) (hx.heap_1 P) by kernel_rfl]
  exact pickK_in X
theorem kno_of {h : Heap} {P : Params} (X : (hx.heap_1 P).In h) : KNo P (ghostOf h [(34, 30), (83, 79), (119, 117)]) := by
  intro a o e t
  refine ghost_get (tabs_of X) (X a o e) fun q => ?_
  subst q
  cases t
end
section
/-- by length, the rest as they came -/
noncomputable def byLen (ss : List Str) : List Str := (List.range 4).flatMap fun z => ss.filter fun x => x.length == z
section
open PySem.W PyProof.Rows
theorem split_keys {α : Type} (key : α → Nat) (l : List α) : ∀ K, ((List.range K).flatMap fun z => l.filter fun x => key x == z).Perm (l.filter fun x => decide (key x < K))
  | 0 => by
    have : (l.filter fun x => decide (key x < 0)) = [] := List.filter_eq_nil_iff.mpr fun x _ => by simp
    rw [this]
    exact List.Perm.refl _
  | K + 1 => by
    rw [List.range_succ, List.flatMap_append]
    have ih := split_keys key l K
    have e1 : ([K].flatMap fun z => l.filter fun x => key x == z) = l.filter fun x => key x == K := by simp
    rw [e1]
    refine (ih.append_right _).trans ?_
    have h := List.filter_append_perm (fun x => decide (key x < K)) (l.filter fun x => decide (key x < K + 1))
    rw [List.filter_filter, List.filter_filter] at h
    have a1 : (l.filter fun x => decide (key x < K) && decide (key x < K + 1)) = l.filter fun x => decide (key x < K) := List.filter_congr fun x _ => by
      by_cases c : key x < K
      · simp [c]; walk_at "o"
      · simp [c]
    have a2 : (l.filter fun x => (!decide (key x < K)) && decide (key x < K + 1)) = l.filter fun x => key x == K := List.filter_congr fun x _ => by
      by_cases c : key x = K
      · simp [c]
      · have : (key x == K) = false := by simpa using c
        rw [this]
        by_cases c2 : key x < K
        · simp [c2]
        · simp; walk_at "o"
    rw [a1, a2] at h
    exact h
theorem stab_order {ss : List Str} {N : Nat} (hN : N = ss.length) (h4 : ∀ x ∈ ss, x.length ≤ 3) {p : Array Nat} (hs : p.size = N) (hp : p.Perm (List.range N).toArray) (ha : Asc (fun i => (ss.getD i Str.empty).length) p N) :
    p.toList.map (fun i => ss.getD i Str.empty) = byLen ss := by
  have e : p.toList = (List.range 4).flatMap fun z => (List.range N).filter fun i => (ss.getD i Str.empty).length == z := by
    refine List.Perm.eq_of_pairwise (le := lx (fun i => (ss.getD i Str.empty).length)) (fun a b _ _ h1 h2 => ?_) ?_ ?_ ?_
    · unfold lx at h1 h2; walk_at "o"
    · rw [List.pairwise_iff_getElem]
      intro i j hi hj hij
      have h := ha i j hij (by rw [← hs]; simpa using hj)
      have g : ∀ k (hk : k < p.toList.length), p.toList[k] = gp p k := fun k hk => by
        have hk' : k < p.size := by simpa using hk
        unfold gp
        simp [Array.getD, hk']
      rw [g i hi, g j hj]
      exact h
    · refine List.pairwise_flatMap.mpr ⟨fun z _ => ?_, ?_⟩
      · refine List.Pairwise.imp_of_mem (fun {a b} hma hmb hab => ?_) ((List.pairwise_lt_range).sublist List.filter_sublist)
        have e1 := (List.mem_filter.mp hma).2
        have e2 := (List.mem_filter.mp hmb).2
        simp only [beq_iff_eq] at e1 e2
        exact .inr ⟨by show (ss.getD a Str.empty).length = (ss.getD b Str.empty).length; rw [e1, e2], hab⟩
      · refine List.Pairwise.imp (fun {z1 z2} hz => ?_) List.pairwise_lt_range
        intro a hma b hmb
        have e1 := (List.mem_filter.mp hma).2
        have e2 := (List.mem_filter.mp hmb).2
        simp only [beq_iff_eq] at e1 e2
        exact .inl (by show (ss.getD a Str.empty).length < (ss.getD b Str.empty).length; rw [e1, e2]; exact hz)
    · have hpl : p.toList.Perm (List.range N) := by simpa using Array.perm_iff_toList_perm.mp hp
      refine hpl.trans ((split_keys (fun i => (ss.getD i Str.empty).length) (List.range N) 4).trans ?_).symm
      have : ((List.range N).filter fun i => decide ((ss.getD i Str.empty).length < 4)) = List.range N := List.filter_eq_self.mpr fun i hi => by
        have hi' : i < ss.length := by rw [← hN]; exact List.mem_range.mp hi
        have hm : ss.getD i Str.empty ∈ ss := by
          rw [List.getD_eq_getElem?_getD, List.getElem?_eq_getElem hi']
          exact List.getElem_mem _
        have := h4 _ hm
        simp only [decide_eq_true_eq]
        walk_at "o"
      rw [this]
  rw [e, List.map_flatMap]
  unfold byLen
  congr 1
  funext z
  have es : ss = (List.range N).map fun i => ss.getD i Str.empty := by
    rw [hN]
    refine List.ext_getElem (by simp) fun i h1 h2 => ?_
    simp [List.getD, h1]
  conv => rhs; rw [es, List.filter_map]
  rfl
theorem updF_app {a : Addr} {o : Obj} {r : List (Addr × Obj)} (h2 : ∀ p ∈ r, p.1 ≠ a) : ∀ {l : List (Addr × Obj)}, (∀ p ∈ l, p.1 ≠ a) → UpdF a o (l ++ (a, o) :: r) (fun o' => l ++ (a, o') :: r)
  | [], _ => .head h2
  | p :: l, h => .tail (h p (.head _)) (updF_app h2 fun q hq => h q (.tail _ hq))
theorem KeyObjs.sub {P : Params} {b b' : List (Addr × Obj)} {K cell : Nat} {f : Value} (O : KeyObjs P b K cell f) (h : ∀ p ∈ b, p ∈ b') : KeyObjs P b' K cell f := by
  obtain ⟨z0, z1, z2, z3, z4, z5, z6, z7, z8, z9, z10, z11, z12, z13, z14, z15, z16, z17, z18, z19, z20, z21, z22, z23, z24, z25, z26, z27, z28, z29, z30, z31, z32, z33, z34, z35, z36, z37, z38, z39, z40, z41, z42, z43, z44, hK, hD, hM, hF0, hF1, hC⟩ := O
  exact ⟨z0, z1, z2, z3, z4, z5, z6, z7, z8, z9, z10, z11, z12, z13, z14, z15, z16, z17, z18, z19, z20, z21, z22, z23, z24, z25, z26, z27, z28, z29, z30, z31, z32, z33, z34, z35, z36, z37, z38, z39, z40, z41, z42, z43, z44, h _ hK, h _ hD, h _ hM, hF0.sub h, hF1.sub h, h _ hC⟩
noncomputable abbrev keyObj (K : Nat) (d : Nat) (x : Str) (t : Tok) : Obj := ⟨.ref (K + 121), some d, .plain, ⟨[some (.str x t)]⟩⟩
/-- the keys made: an object for each text -/
inductive KeysAt (K : Nat) (own : List (Addr × Obj)) : List Value → List Str → Prop
  | nil : KeysAt K own [] []
  | snoc {ks ds} (I d : Nat) (od : Obj) (x : Str) (t : Tok) : KeysAt K own ks ds → (I + 121, keyObj K d x t) ∈ own → (d, od) ∈ own → KeysAt K own (ks ++ [.ref (I + 121)]) (ds ++ [x])
theorem KeysAt.sub {K : Nat} {o o' : List (Addr × Obj)} (h : ∀ p ∈ o, p ∈ o') : ∀ {ks ds}, KeysAt K o ks ds → KeysAt K o' ks ds
  | _, _, .nil => .nil
  | _, _, .snoc I d od x t r a b => .snoc I d od x t (r.sub h) (h _ a) (h _ b)
theorem KeysAt.len {K : Nat} {o : List (Addr × Obj)} : ∀ {ks ds}, KeysAt K o ks ds → ks.length = ds.length
  | _, _, .nil => rfl
  | _, _, .snoc I d od x t r a b => by simp [r.len]
theorem KeysAt.get {K : Nat} {o : List (Addr × Obj)} : ∀ {ks ds}, KeysAt K o ks ds → ∀ i, i < ds.length → ∃ (I d : Nat) (od : Obj) (t : Tok), ks.getD i Value.none = .ref (I + 121) ∧ (I + 121, keyObj K d (ds.getD i Str.empty) t) ∈ o ∧ (d, od) ∈ o
  | _, _, .nil, i, h => by simp at h
  | _, _, .snoc (ks := ks) (ds := ds) I d od x t r a b, i, h => by
    have hl := r.len
    by_cases c : i < ds.length
    · obtain ⟨I', d', od', t', e1, e2, e3⟩ := r.get i c
      refine ⟨I', d', od', t', ?_, ?_, e3⟩
      · rw [List.getD_eq_getElem?_getD, List.getElem?_append_left (by walk_at "o"), ← List.getD_eq_getElem?_getD]; exact e1
      · rw [List.getD_eq_getElem?_getD, List.getElem?_append_left c, ← List.getD_eq_getElem?_getD]; exact e2
    · have e : i = ds.length := by simp at h; walk_at "o"
      refine ⟨I, d, od, t, ?_, ?_, b⟩
      · rw [List.getD_eq_getElem?_getD, List.getElem?_append_right (by walk_at "o")]; simp [e, hl]
      · rw [List.getD_eq_getElem?_getD, List.getElem?_append_right (by walk_at "o")]; simp [e]; exact a
theorem keys_mem {K : Nat} {o : List (Addr × Obj)} : ∀ {ks ds}, KeysAt K o ks ds → ∀ v ∈ ks, ∃ (I d : Nat) (od : Obj) (x : Str) (t : Tok), v = .ref (I + 121) ∧ (I + 121, keyObj K d x t) ∈ o ∧ (d, od) ∈ o
  | _, _, .nil, v, h => by cases h
  | _, _, .snoc I d od x t r a b, v, h => by
    rcases List.mem_append.mp h with h | h
    · exact keys_mem r v h
    · rw [List.mem_singleton.mp h]; exact ⟨I, d, od, x, t, rfl, a, b⟩
end
section
open PySem.W PyProof.Rows
variable {w : World} {h₀ : Heap} {L : Addr} {m : Str → Option Value} {A : Around}
/-- the keys are made, one for each text -/
theorem keys_made {K cell : Nat} {fv : Value} {kS D : Addr} {e1 : Nat} {news : List (Addr × Obj)} {Fin : List Value → Nat → Shared → Prop} (hA : A.handled = none) (hd : A.depth ≤ 550) (hu : A.units ≤ 1000) (hb0 : 121 ≤ h₀.objs.size) (KN : KNo w.params h₀) (O : KeyObjs w.params news K cell fv)
    (hDk : D < kS) (hDn : ∀ p ∈ news, p.1 < D) : ∀ (r : List Value) (rs : List Str), StrsAre r rs → ∀ (ks : List Value) (ds : List Str) (own : List (Addr × Obj)) (e : Nat) (s : Shared), Fr h₀ L s.heap m → News h₀ L s.heap (own ++ (kS, seqObj "list" (List.toArray ks) e) :: (D, seqObj "list" #[] e1) :: news) → (∀ p ∈ own, kS < p.1) → KeysAt K own ks ds →
    (∀ own' ks' e' h' tk', Fr h₀ L h' m → News h₀ L h' (own' ++ (kS, seqObj "list" (List.toArray ks') e') :: (D, seqObj "list" #[] e1) :: news) → (∀ p ∈ own', kS < p.1) → KeysAt K own' ks' (ds ++ rs) → Fin ks' e' { s with heap := h', toks := tk' }) →
    KatKeys Challenge.rw_il0109_01.row.prog w A h₀ L m kS (.ref (K + 121)) Fin r ks e s
  | _, _, .nil, ks, ds, own, e, s, F, N, ho, hk, h => by
    refine KatKeys.nil ?_
    have := h own ks e s.heap s.toks F N ho (by rw [List.append_nil]; exact hk)
    exact this
  | _, _, .cons x t r, ks, ds, own, e, s, F, N, ho, hk, h => by
    refine KatKeys.cons (wpAny_call ?_)
    have hall : ∀ p ∈ (D, seqObj "list" #[] e1) :: news, p.1 ≠ kS := fun p hp => by
      rcases List.mem_cons.mp hp with rfl | hp
      · exact Nat.ne_of_lt hDk
      · exact Nat.ne_of_lt (Nat.lt_trans (hDn p hp) hDk)
    refine code_weak (A := xA0) hA (Nat.ble_eq_true_of_le hd) (Nat.ble_eq_true_of_le hu) rfl rfl ?_
    refine xc_make F N hb0 KN K cell fv (O.sub fun p hp => List.mem_append_right _ (.tail _ (.tail _ hp))) x t ?_
    intro I d od own' h' tk' X hI hdm
    have hlow : ∀ p ∈ own', kS < p.1 := fun p hp => X.low p hp (kS, _) (List.mem_append_right _ (.head _))
    have N' := X.nw
    rw [← List.append_assoc] at N'
    have ho2 : ∀ p ∈ own' ++ own, kS < p.1 := fun p hp => by
      rcases List.mem_append.mp hp with hp | hp
      · exact hlow p hp
      · exact ho p hp
    refine KatBack.intro X.fr N' (updF_app hall fun p hp => Nat.ne_of_gt (ho2 p hp)) ?_
    intro h2 c F2 N2
    refine keys_made hA hd hu hb0 KN O hDk hDn _ _ r (ks ++ [.ref (I + 121)]) (ds ++ [x]) (own' ++ own) c { s with heap := h2, toks := tk' } F2 N2 ho2 (.snoc I d od x t (hk.sub fun p hp => List.mem_append_right _ hp) (List.mem_append_left _ hI) (List.mem_append_left _ hdm)) ?_
    intro o2 k2 e2 h3 tk3 F3 N3 ho3 hk3
    rw [List.append_assoc] at hk3
    exact h o2 k2 e2 h3 tk3 F3 N3 ho3 hk3
end
section
open PySem.W PyProof.Rows
theorem c_order {w : World} {p : Program} {loose : List Str} {mean : ExcName → Option Value} {mg mb : Str → Option Value}
  (dp un : Nat) (gd : Option (List Code)) (cn : Str) (cs : Scope) (a : Addr) (ccd : Value) (cl : List (Str × Addr)) (outer : List Env) (A₀ : Around) (base h₀ : Heap) (L : Addr) (m : Str → Option Value) (news : List (Addr × Obj)) (s : Shared)
    (Q : Value → Shared → Prop) (E : Value → Shared → Prop)
    (B : Below A₀ base outer h₀) (F : Fr h₀ L s.heap m) (KX : (hd.heap_1 w.params).In h₀) (Cd : CodeHd base 34 30) (T : Top p loose mean mg mb h₀) (hk : cs.kind = .function) (hdp : dp + 20 < recursionLimit) (hu : un + 100 < cLine) (hd2 : dp ≤ 500) (hu2 : un ≤ 900) (KN : KNo w.params base)
    (N : News h₀ L s.heap news) (K cell Fa Lc : Nat) (O : KeyObjs w.params news K cell (.ref Fa))
    (nm qn : Str) (pm ctv : Value) (oc : Obj) (lvs : Array Value) (tq : Tok) (hL : (Fa, kla_obj nm qn (lamOf w.params).1 (lamOf w.params).2.1 (lamOf w.params).2.2 [] pm Lc ctv) ∈ news) (hLc : (Lc, oc) ∈ news) (hLd : oc.data = .fields lvs) (hLv : lvs[1]? = some (.str qn tq))
    (l : Addr) (vs : List Value) (n : Nat) (ss : List Str) (hl : (l, listOf vs.toArray n) ∈ news) (hS : StrsAre vs ss) (h2 : 2 ≤ ss.length) (h64 : ss.length < 64) (h3 : ∀ x ∈ ss, x.length ≤ 3)
    (hret : ∀ D n' vs' own h' tk', Fr h₀ L h' m → News h₀ L h' (own ++ (D, listOf (List.toArray vs') n') :: news) → (∀ p ∈ own, D < p.1) → (∀ p ∈ news, p.1 < D) → StrsAre vs' (byLen ss) → Q (.ref D) { s with heap := h', toks := tk' }) :
    wpAny (model Challenge.rw_il0109_01.row.prog w) (ktrTop dp un gd cn cs L a ccd cl outer) (call (.builtin "sorted") [.ref l] [(Str.ofString "key", .ref (K + 121))]) Q E s := by
  have hvl := hS.length
  have KN0 : KNo w.params h₀ := KN.keeps B.stays
  refine kat_sortedK (b := false) (f := .ref (K + 121)) F N (News.isList N hl) (by walk_at "o") (by walk_at "o") (ksk_s1 _ _) (fun x => ksk_l1 _ _) (fun x => ksk_t1 _ _) ?_
  intro D kS e1 h' F' N' l1 l2
  refine keys_made rfl (by show dp ≤ 550; walk_at "o") (by show un + 1 + 1 ≤ 1000; walk_at "o") KN0.big KN0 O l1 l2 vs ss hS [] [] [] 0 _ F' N' (fun p hp => nomatch hp) .nil ?_
  intro own ks e h4 tk4 F4 N4 ho hK
  rw [List.nil_append] at hK
  have hkl := hK.len
  have hT : ∀ v ∈ ks, Looks (model Challenge.rw_il0109_01.row.prog w) h4 (typeOf v) (.ref (K + 121)) := fun v hv => by
    obtain ⟨I, d, od, x, t, rfl, hi, hd⟩ := keys_mem hK v hv
    exact InstAt.type (InstAt.of_news N4 (List.mem_append_left _ hi) (List.mem_append_left _ hd))
  refine kas_kind (by walk_at "o") hT (by simp) (by simp) ?_
  have hO4 := O.sub (b' := own ++ (kS, seqObj "list" (List.toArray ks) e) :: (D, seqObj "list" #[] e1) :: news) fun p hp => List.mem_append_right _ (.tail _ (.tail _ hp))
  have sub4 : ∀ p ∈ news, p ∈ own ++ (kS, seqObj "list" (List.toArray ks) e) :: (D, seqObj "list" #[] e1) :: news := fun p hp => List.mem_append_right _ (.tail _ (.tail _ hp))
  obtain ⟨Kf, md, f1, v1, U⟩ := key_use N4 hO4
  refine kok_wp (lt := ltk fun i => (ss.getD i Str.empty).length) (N := vs.length) (R := fun q => q.size = vs.length ∧ q.Perm (List.range vs.length).toArray ∧ Asc (fun i => (ss.getD i Str.empty).length) q vs.length)
    (fun s' => ∃ h5 tk5, s' = { s with heap := h5, toks := tk5 } ∧ Fr h₀ L h5 m ∧ News h₀ L h5 (own ++ (kS, seqObj "list" (List.toArray ks) e) :: (D, seqObj "list" #[] e1) :: news)) ?_ ?_ _ _ (kok_sort (by walk_at "o")) ⟨h4, tk4, rfl, F4, N4⟩
  · rintro i j C s' hi hj ⟨h5, tk5, rfl, F5, N5⟩ hC
    obtain ⟨I, d, od, t, g1, g2, g3⟩ := hK.get i (by walk_at "o")
    obtain ⟨J, d', od', t', g1', g2', g3'⟩ := hK.get j (by walk_at "o")
    unfold kas_ask
    show wpAny _ (ktrTop dp (un + 1 + 1) gd cn cs L a ccd cl outer) (keyLt' oneType' (ks.getD i Value.none) (ks.getD j Value.none)) C _ _
    rw [g1, g1']
    have hm : ∀ k, k < vs.length → (ss.getD k Str.empty).length ≤ 10 := fun k hk => by
      have hk' : k < ss.length := by walk_at "o"
      have := h3 (ss.getD k Str.empty) (by rw [List.getD_eq_getElem?_getD, List.getElem?_eq_getElem hk']; exact List.getElem_mem _)
      walk_at "o"
    refine c_lt dp (un + 1 + 1) gd cn cs a ccd cl outer A₀ base h₀ L m _ _ C _ B F5 KX Cd T hk (by walk_at "o") (by walk_at "o") N5 K cell Fa Lc Kf md f1 v1 U nm qn pm ctv oc lvs tq (sub4 _ hL) (sub4 _ hLc) hLd hLv (I + 121) (J + 121) d d' _ _ t t' od od' (List.mem_append_left _ g2) (List.mem_append_left _ g3) (List.mem_append_left _ g2') (List.mem_append_left _ g3') (hm i hi) (hm j hj) ?_
    intro h6 tk6 F6 N6
    exact hC _ ⟨h6, tk6, rfl, F6, N6⟩
  · rintro q s' ⟨z1, z2, z3⟩ ⟨h5, tk5, rfl, F5, N5⟩
    have hall : ∀ p ∈ (D, seqObj "list" #[] e1) :: news, p.1 ≠ kS := fun p hp => by
      rcases List.mem_cons.mp hp with rfl | hp
      · exact Nat.ne_of_lt l1
      · exact Nat.ne_of_lt (Nat.lt_trans (l2 p hp) l1)
    refine KatFin.intro F5 N5 (updF_app hall fun p hp => Nat.ne_of_gt (ho p hp)) ?_
    intro h6 c6 F6 N6
    have hne : ∀ p ∈ own ++ [(kS, seqObj "list" #[] c6)], D < p.1 := fun p hp => by
      rcases List.mem_append.mp hp with hp | hp
      · exact Nat.lt_trans l1 (ho p hp)
      · rw [List.mem_singleton.mp hp]; exact l1
    have N6' : News h₀ L h6 ((own ++ [(kS, seqObj "list" #[] c6)]) ++ (D, seqObj "list" #[] e1) :: news) := by
      rw [List.append_assoc]; exact N6
    refine KasFin.intro F6 N6' (updF_app (fun p hp => Nat.ne_of_lt (l2 p hp)) fun p hp => Nat.ne_of_gt (hne p hp)) ?_
    intro h7 c7 F7 N7
    refine hret D c7 _ _ h7 _ F7 N7 hne l2 ?_
    rw [← stab_order hvl h3 z1 z2 z3]
    have key : ∀ idx : List Nat, (∀ i ∈ idx, i < vs.length) → StrsAre (idx.map fun i => vs.getD i Value.none) (idx.map fun i => ss.getD i Str.empty) := by
      intro idx
      induction idx with
      | nil => intro _; exact .nil
      | cons i r ih =>
        intro hi
        have hi' : i < ss.length := by have := hi i (.head _); walk_at "o"
        obtain ⟨t, ht⟩ := hS.get i (ss.getD i Str.empty) (by rw [List.getD_eq_getElem?_getD, List.getElem?_eq_getElem hi']; rfl)
        have e : vs.getD i Value.none = .str (ss.getD i Str.empty) t := by
          rw [List.getD_eq_getElem?_getD, ht]; rfl
        rw [List.map_cons, List.map_cons, e]
        exact .cons _ _ (ih fun j hj => hi j (.tail _ hj))
    refine key q.toList fun i hi => ?_
    have hpl : q.toList.Perm (List.range vs.length) := by simpa using Array.perm_iff_toList_perm.mp z2
    exact List.mem_range.mp (hpl.mem_iff.mp hi)
end
end
section
/-- data that the comparison of equal data takes -/
structure Fit (k : Nat) (d : PyData) : Prop where
  lay : PyData.canLay0 d = true
  dep : PyData.depth d ≤ k
  mix : SeqAt.noMix d d = true
structure FitAll (k : Nat) (ds : List PyData) : Prop where
  lay : PyData.canLayAll0 ds = true
  dep : PyData.depthAll ds ≤ k
  mix : SeqAt.noMixAll ds ds = true
theorem FitAll.nil {k : Nat} : FitAll k [] := ⟨by simp [PyData.canLayAll0], by simp [PyData.depthAll], by simp [SeqAt.noMixAll]⟩
theorem FitAll.cons {k : Nat} {d : PyData} {ds : List PyData} (h : Fit k d) (r : FitAll k ds) : FitAll k (d :: ds) :=
  ⟨by simp [PyData.canLayAll0, h.lay, r.lay], by simp only [PyData.depthAll]; exact Nat.max_le.mpr ⟨h.dep, r.dep⟩, by simp [SeqAt.noMixAll, h.mix, r.mix]⟩
theorem FitAll.list {k : Nat} {ds : List PyData} (h : FitAll k ds) : Fit (k + 1) (.list ds) :=
  ⟨by simp only [PyData.canLay0]; exact h.lay, by simp only [PyData.depth]; exact Nat.succ_le_succ h.dep, by simp only [SeqAt.noMix]; exact h.mix⟩
theorem FitAll.tuple {k : Nat} {ds : List PyData} (h : FitAll k ds) : Fit (k + 1) (.tuple ds) :=
  ⟨by simp only [PyData.canLay0]; exact h.lay, by simp only [PyData.depth]; exact Nat.succ_le_succ h.dep, by simp only [SeqAt.noMix]; exact h.mix⟩
theorem fit_str {k : Nat} {x : Str} (h : PyData.strOk x = true) : Fit k (.str x) := ⟨by simp only [PyData.canLay0]; exact h, by simp [PyData.depth], by simp [SeqAt.noMix]⟩
theorem fit_strs {k : Nat} : ∀ {ns : List Str}, OkS ns → FitAll k (ns.map PyData.str)
  | [], _ => .nil
  | _ :: _, h => .cons (fit_str (h _ (.head _))) (fit_strs fun x hx => h x (.tail _ hx))
theorem fit_pair {k : Nat} {a b : PyData} (h1 : Fit k a) (h2 : Fit k b) : FitAll k [a, b] := .cons h1 (.cons h2 .nil)
section
variable {h : Heap}
theorem rd_strs {D : Addr} {vs : List Value} {ns : List Str} {n : Nat} (g : h.get? D = some (listOf vs.toArray n)) (hs : StrsAre vs ns) : ∃ cs, Reads h (.ref D) (.list (ns.map PyData.str)) cs :=
  ⟨_, reads_of_strs ⟨_, g, rfl, _, rfl⟩ hs⟩
theorem rd_str (x : Str) (t : Tok) : ∃ cs, Reads h (.str x t) (.str x) cs := ⟨_, .str x t⟩
theorem rd_list2 {D : Addr} {a b : Value} {d e : PyData} {n : Nat} (g : h.get? D = some (listOf [a, b].toArray n)) (ra : ∃ cs, Reads h a d cs) (rb : ∃ cs, Reads h b e cs) : ∃ cs, Reads h (.ref D) (.list [d, e]) cs := by
  obtain ⟨_, ra⟩ := ra
  obtain ⟨_, rb⟩ := rb
  exact ⟨_, .list g rfl rfl (.cons ra (.cons rb .nil))⟩
theorem rd_tup2 {D : Addr} {a b : Value} {d e : PyData} (g : h.get? D = some (tupOf [a, b])) (ra : ∃ cs, Reads h a d cs) (rb : ∃ cs, Reads h b e cs) : ∃ cs, Reads h (.ref D) (.tuple [d, e]) cs := by
  obtain ⟨_, ra⟩ := ra
  obtain ⟨_, rb⟩ := rb
  exact ⟨_, .tuple g rfl rfl (.cons ra (.cons rb .nil))⟩
end
section
variable {prog : Program} {w : World} {A : Around} {E : Value → Shared → Prop} {s : Shared}
theorem eq_fit {a b : Value} {d : PyData} {k : Nat} {Q : Value → Shared → Prop} (ra : ∃ cs, Reads s.heap a d cs) (rb : ∃ cs, Reads s.heap b d cs) (hf : Fit k d) (hk : k ≤ 64) (hu : A.units + 64 < cLine) (h : Q (.bool true) s) :
    wpAny (model prog w) A (compareOp .Eq a b) Q E s := by
  obtain ⟨_, ra⟩ := ra
  obtain ⟨_, rb⟩ := rb
  have hs : SeqAt.shaped d = true := by
    show (PyData.canLay0 d && decide (PyData.depth d ≤ 64)) = true
    rw [Bool.and_eq_true]
    exact ⟨hf.lay, decide_eq_true (Nat.le_trans hf.dep hk)⟩
  exact eq_dataH_same ra rb hs hs hu hf.mix (by rw [PySem.Spec.same_self]; exact h)
theorem ne_fit {a b : Value} {d : PyData} {k : Nat} {Q : Value → Shared → Prop} (ra : ∃ cs, Reads s.heap a d cs) (rb : ∃ cs, Reads s.heap b d cs) (hf : Fit k d) (hk : k ≤ 64) (hu : A.units + 64 < cLine) (h : Q (.bool false) s) :
    wpAny (model prog w) A (compareOp .NotEq a b) Q E s := by
  obtain ⟨_, ra⟩ := ra
  obtain ⟨_, rb⟩ := rb
  have hs : SeqAt.shaped d = true := by
    show (PyData.canLay0 d && decide (PyData.depth d ≤ 64)) = true
    rw [Bool.and_eq_true]
    exact ⟨hf.lay, decide_eq_true (Nat.le_trans hf.dep hk)⟩
  exact ne_dataH_same ra rb hs hs hu hf.mix (by rw [PySem.Spec.same_self]; exact h)
end
end
section
theorem texts0_app (a b : List Int) : texts0 (a ++ b) = texts0 a ++ texts0 b := by simp [texts0]
theorem texts1_app (a b : List Int) : texts1 (a ++ b) = texts1 a ++ texts1 b := by simp [texts1]
theorem texts0_le (a : List Int) : (texts0 a).length ≤ a.length := by
  unfold texts0; rw [List.length_map]; exact List.length_filter_le _ _
theorem texts1_le (a : List Int) : (texts1 a).length ≤ a.length := by
  unfold texts1; rw [List.length_map]; exact List.length_filter_le _ _
theorem consts0 : (texts0 consts).length = 8 := by decide +kernel
theorem consts1 : (texts1 consts).length = 5 := by decide +kernel
theorem lens0 (ns : List Int) : 8 ≤ (texts0 (ns.take 10 ++ consts)).length ∧ (texts0 (ns.take 10 ++ consts)).length ≤ 18 := by
  rw [texts0_app, List.length_append, consts0]
  have h1 := texts0_le (ns.take 10)
  have h2 : (ns.take 10).length ≤ 10 := by rw [List.length_take]; walk_at "o"
  walk_at "o"
theorem lens1 (ns : List Int) : 5 ≤ (texts1 (ns.take 10 ++ consts)).length ∧ (texts1 (ns.take 10 ++ consts)).length ≤ 15 := by
  rw [texts1_app, List.length_append, consts1]
  have h1 := texts1_le (ns.take 10)
  have h2 : (ns.take 10).length ≤ 10 := by rw [List.length_take]; walk_at "o"
  walk_at "o"
theorem piece_mem (x : Int) : pieceOf x ∈ piecesL := by
  unfold pieceOf
  have h := fmod8 x
  have h8 : (x.fmod 8).toNat < 8 := by walk_at "o"
  generalize (x.fmod 8).toNat = k at h8
  have e : piecesL.length = 8 := by decide +kernel
  rw [List.getD_eq_getElem?_getD, List.getElem?_eq_getElem (by walk_at "o")]
  exact List.getElem_mem _
theorem mem0 {l : List Int} {x : Str} (h : x ∈ texts0 l) : x ∈ piecesL := by
  unfold texts0 at h
  obtain ⟨y, _, rfl⟩ := List.mem_map.mp h
  exact piece_mem y
theorem mem1 {l : List Int} {x : Str} (h : x ∈ texts1 l) : x ∈ piecesL := by
  unfold texts1 at h
  obtain ⟨y, _, rfl⟩ := List.mem_map.mp h
  exact piece_mem y
theorem piece_len {x : Str} (h : x ∈ piecesL) : x.length ≤ 3 := by
  have key : ∀ x ∈ piecesL, x.length ≤ 3 := by decide +kernel
  exact key x h
theorem piece_ok {x : Str} (h : x ∈ piecesL) : PyData.strOk x = true := by
  have key : ∀ x ∈ piecesL, PyData.strOk x = true := by decide +kernel
  exact key x h
theorem textOf_octs (x : Str) : textOf (x.cps.toList.map fun (c : Nat) => (c : Int)) = x := by
  unfold textOf
  rw [List.map_map]
  have e : (Int.toNat ∘ fun (c : Nat) => (c : Int)) = id := by funext c; simp
  rw [e, List.map_id]
theorem tapeAll_cons (x : Str) (r : List Str) : tapeAll (x :: r) = (x.length : Int) :: (x.cps.toList.map (fun (c : Nat) => (c : Int)) ++ tapeAll r) := by
  simp [tapeAll, octs]
theorem tapeAll_le : ∀ ts : List Str, ts.length ≤ (tapeAll ts).length
  | [] => Nat.zero_le _
  | x :: r => by
    have := tapeAll_le r
    rw [tapeAll_cons]
    simp only [List.length_cons, List.length_append, List.length_map]
    walk_at "o"
/-- what is read off a tape that is cut -/
theorem whole_cut : ∀ (ts : List Str) (n : Nat), ∃ j, j ≤ ts.length ∧ (whole ((tapeAll ts).take n)).1 = ts.take j ∧ ((tapeAll ts).length ≤ n → j = ts.length)
  | [], n => ⟨0, Nat.le_refl _, by simp [tapeAll, whole], fun _ => rfl⟩
  | x :: r, 0 => ⟨0, Nat.zero_le _, by simp [whole], fun h => by
      rw [tapeAll_cons] at h; simp at h⟩
  | x :: r, n + 1 => by
    have hxl : x.length = x.cps.toList.length := by simp [PySem.Str.length]
    rw [tapeAll_cons, List.take_succ_cons, whole]
    have ec : (x.length : Int).toNat = x.length := Int.toNat_natCast _
    by_cases c : n < x.length
    · have hl : ((x.cps.toList.map (fun (c : Nat) => (c : Int)) ++ tapeAll r).take n).length < (x.length : Int).toNat := by
        rw [ec, List.length_take]
        walk_at "o"
      rw [if_pos hl]
      refine ⟨0, Nat.zero_le _, rfl, fun h => ?_⟩
      simp only [List.length_cons, List.length_append, List.length_map] at h
      walk_at "o"
    · have hl : ¬ ((x.cps.toList.map (fun (c : Nat) => (c : Int)) ++ tapeAll r).take n).length < (x.length : Int).toNat := by
        rw [ec, List.length_take, List.length_append, List.length_map]
        walk_at "o"
      rw [if_neg hl]
      obtain ⟨j, hj, hw, hall⟩ := whole_cut r (n - x.length)
      have hml : (x.cps.toList.map (fun (c : Nat) => (c : Int))).length = x.length := by rw [List.length_map, ← hxl]
      have e1 : (x.cps.toList.map (fun (c : Nat) => (c : Int)) ++ tapeAll r).take n = x.cps.toList.map (fun (c : Nat) => (c : Int)) ++ (tapeAll r).take (n - x.length) := by
        rw [List.take_append, hml, List.take_of_length_le (by rw [hml]; walk_at "o")]
      have e2 : ((x.cps.toList.map (fun (c : Nat) => (c : Int)) ++ (tapeAll r).take (n - x.length)).drop x.length) = (tapeAll r).take (n - x.length) := by
        rw [List.drop_append, hml, Nat.sub_self, List.drop_zero, List.drop_of_length_le (by rw [hml]; exact Nat.le_refl _)]
        rfl
      have e3 : ((x.cps.toList.map (fun (c : Nat) => (c : Int)) ++ (tapeAll r).take (n - x.length)).take x.length) = x.cps.toList.map (fun (c : Nat) => (c : Int)) := by
        rw [List.take_append, hml, Nat.sub_self, List.take_zero, List.append_nil, List.take_of_length_le (by rw [hml]; exact Nat.le_refl _)]
      refine ⟨j + 1, by simp only [List.length_cons]; walk_at "o", ?_, fun h => ?_⟩
      · dsimp only
        rw [ec, e1, e2, e3, textOf_octs, hw, List.take_succ_cons]
      · simp only [List.length_cons, List.length_append, List.length_map] at h
        rw [hall (by walk_at "o"), List.length_cons]
theorem tape_byte {ts : List Str} (h : ∀ x ∈ ts, x ∈ piecesL) : ∀ c ∈ tapeAll ts, 0 ≤ c ∧ c < 256 := by
  intro c hc
  unfold tapeAll at hc
  obtain ⟨l, hl, hc⟩ := List.mem_flatten.mp hc
  obtain ⟨x, hx, rfl⟩ := List.mem_map.mp hl
  have key : ∀ x ∈ piecesL, ∀ c ∈ octs x, 0 ≤ c ∧ c < 256 := by decide +kernel
  exact key x (h x hx) c hc
theorem tape_short {ts : List Str} (h : ∀ x ∈ ts, x.length ≤ 3) : (tapeAll ts).length ≤ 4 * ts.length := by
  induction ts with
  | nil => exact Nat.le_refl _
  | cons x r ih =>
    have h1 := ih fun y hy => h y (.tail _ hy)
    have h2 := h x (.head _)
    rw [tapeAll_cons]
    have hxl : x.length = x.cps.toList.length := by simp [PySem.Str.length]
    simp only [List.length_cons, List.length_append, List.length_map]
    walk_at "o"
end
section
theorem run_succ (ns : List Int) : ∀ (i : Nat) (r : RS), runRS ns (i + 1) r = runRS ns i (stepRS ns r)
  | 0, _ => rfl
  | i + 1, r => by
    show stepRS ns (runRS ns (i + 1) r) = stepRS ns (runRS ns i (stepRS ns r))
    rw [run_succ ns i r]
theorem run_stop (ns : List Int) {r : RS} (h : r.rf ≠ Str.ofString "") : ∀ i, runRS ns i r = r
  | 0 => rfl
  | i + 1 => by
    show stepRS ns (runRS ns i r) = r
    rw [run_stop ns h i]
    unfold stepRS
    rw [if_neg h]
theorem not_enough_ne : notEnough ≠ Str.ofString "" := by decide +kernel
theorem expected_ne (c k : Int) : expectedMsg c k ≠ Str.ofString "" := by
  intro h
  have h1 := congrArg (fun x : Str => x.cps.size) h
  unfold expectedMsg at h1
  have e0 : (Str.ofString "").cps.size = 0 := by decide +kernel
  have e1 : (Str.ofString "expected ").cps.size = 9 := by decide +kernel
  have app : ∀ a b : Str, (a ++ b).cps.size = a.cps.size + b.cps.size := fun a b => by
    show (a.cps ++ b.cps).size = _
    exact Array.size_append ..
  simp only [app, e0, e1] at h1
  walk_at "o"
theorem run_whole (ns : List Int) : ∀ (m : Nat) (ts : List Str) (k : Nat), (whole (ns.drop k)).1.length < m → (runRS ns m ⟨ts, Str.ofString "", k⟩).ts = ts ++ (whole (ns.drop k)).1 ∧ (runRS ns m ⟨ts, Str.ofString "", k⟩).rf = (whole (ns.drop k)).2
  | 0, _, _, h => absurd h (Nat.not_lt_zero _)
  | m + 1, ts, k, h => by
    rw [run_succ]
    unfold stepRS
    rw [if_pos rfl]
    cases hd : ns.drop k with
    | nil =>
      dsimp only
      rw [run_stop ns not_enough_ne, whole]
      exact ⟨(List.append_nil _).symm, rfl⟩
    | cons c r =>
      dsimp only
      rw [whole]
      by_cases hc : r.length < c.toNat
      · rw [if_pos hc, if_pos hc, run_stop ns (expected_ne _ _)]
        exact ⟨(List.append_nil _).symm, rfl⟩
      · rw [if_neg hc, if_neg hc]
        have e : ns.drop (k + 1 + c.toNat) = r.drop c.toNat := by
          rw [← List.drop_drop, ← List.drop_drop, hd]
          rfl
        have h2 : (whole (ns.drop (k + 1 + c.toNat))).1.length < m := by
          rw [hd, whole, if_neg hc] at h
          rw [e]
          simpa using h
        have ih := run_whole ns m (ts ++ [textOf (r.take c.toNat)]) (k + 1 + c.toNat) h2
        rw [e] at ih
        rw [ih.1, ih.2]
        simp
/-- reduce's reading is the reading -/
theorem read_whole (ns : List Int) (cnt : Nat) (h : (whole ns).1.length ≤ cnt) : (runRS ns (cnt + 1) rs0).ts = (whole ns).1 ∧ (runRS ns (cnt + 1) rs0).rf = (whole ns).2 := by
  have := run_whole ns (cnt + 1) [] 0 (by rw [List.drop_zero]; walk_at "o")
  rw [List.drop_zero] at this
  simpa [rs0] using this
end
section
theorem ltS_irrefl (x : Str) : ltS x x = false := by
  unfold ltS; simpa using List.lt_irrefl x.cps.toList
theorem ltS_trans {x y z : Str} (a : ltS x y = true) (b : ltS y z = true) : ltS x z = true := by
  unfold ltS at *; simp only [decide_eq_true_eq] at *; exact List.lt_trans a b
theorem ltS_asymm {x y : Str} (a : ltS x y = true) : ltS y x = false := by
  cases h : ltS y x with
  | false => rfl
  | true => have := ltS_trans a h; rw [ltS_irrefl] at this; cases this
theorem ltS_tri {x y : Str} (a : ltS x y = false) (b : ltS y x = false) : x = y := by
  unfold ltS at *
  simp only [decide_eq_false_iff_not] at *
  exact Str.ext' (Array.toList_inj.mp (List.le_antisymm (List.not_lt.mp b) (List.not_lt.mp a)))
theorem ltS_le {x y z : Str} (a : ltS x y = true) (b : ltS z y = false) : ltS x z = true := by
  cases h : ltS x z with
  | true => rfl
  | false =>
    cases h2 : ltS z x with
    | true => rw [ltS_trans h2 a] at b; cases b
    | false => rw [ltS_tri h h2] at a; rw [a] at b; cases b
noncomputable def Srt (l : List Str) : Prop := l.Pairwise fun a b => ltS b a = false
theorem srt_rising : ∀ (l : List Str) (p : Str), risingS p l = true → Srt (p :: l)
  | [], p, _ => List.pairwise_singleton ..
  | x :: r, p, h => by
    unfold risingS at h
    simp only [Bool.and_eq_true, Bool.not_eq_true'] at h
    have ih := srt_rising r x h.2
    refine List.pairwise_cons.mpr ⟨fun y hy => ?_, ih⟩
    have hpx : ltS x p = false := by
      have := h.1
      rw [← lt_meets] at this
      exact this
    rcases List.mem_cons.mp hy with rfl | hy
    · exact hpx
    · have hxy := (List.pairwise_cons.mp ih).1 y hy
      cases c : ltS y p with
      | false => rfl
      | true =>
        have := ltS_le c hpx
        rw [this] at hxy
        cases hxy
theorem srt_of {l : List Str} (h : sortedS l = true) : Srt l := by
  cases l with
  | nil => exact .nil
  | cons x r => exact srt_rising r x h
theorem srt_eq {l l' : List Str} (h : Srt l) (h' : Srt l') (p : l.Perm l') : l = l' :=
  p.eq_of_pairwise (le := fun a b => ltS b a = false) (fun _ _ _ _ a b => ltS_tri b a) h h'
theorem max_best (os : List Str) : ∀ k, argBest (fun i j => ltS (os.getD j Str.empty) (os.getD i Str.empty)) k ≤ k ∧ ∀ i, i ≤ k → ltS (os.getD (argBest (fun i j => ltS (os.getD j Str.empty) (os.getD i Str.empty)) k) Str.empty) (os.getD i Str.empty) = false
  | 0 => ⟨Nat.le_refl _, fun i hi => by
    have : i = 0 := by walk_at "o"
    subst this; exact ltS_irrefl _⟩
  | k + 1 => by
    obtain ⟨h1, h2⟩ := max_best os k
    unfold argBest
    split
    · rename_i c
      refine ⟨Nat.le_refl _, fun i hi => ?_⟩
      by_cases e : i = k + 1
      · subst e; exact ltS_irrefl _
      · cases hc : ltS (os.getD (k + 1) Str.empty) (os.getD i Str.empty) with
        | false => rfl
        | true =>
          have := h2 i (by walk_at "o")
          rw [ltS_trans c hc] at this
          cases this
    · rename_i c
      refine ⟨by walk_at "o", fun i hi => ?_⟩
      by_cases e : i = k + 1
      · subst e; simpa using c
      · exact h2 i (by walk_at "o")
theorem max_is {os : List Str} (h : os ≠ []) (x : Str) : ltS (maxS os) x = true ↔ ∀ y ∈ os, ltS y x = true := by
  have hl : 0 < os.length := List.length_pos_iff.mpr h
  obtain ⟨h1, h2⟩ := max_best os (os.length - 1)
  unfold maxS
  generalize argBest (fun i j => ltS (os.getD j Str.empty) (os.getD i Str.empty)) (os.length - 1) = k at h1 h2
  have hk : k < os.length := by walk_at "o"
  constructor
  · intro hx y hy
    obtain ⟨i, hi, rfl⟩ := List.getElem_of_mem hy
    have h3 := h2 i (by walk_at "o")
    rw [show os.getD i Str.empty = os[i] by simp [List.getD, hi]] at h3
    cases c : ltS os[i] x with
    | true => rfl
    | false =>
      have := ltS_le hx c
      rw [this] at h3
      cases h3
  · intro hall
    refine hall _ ?_
    rw [show os.getD k Str.empty = os[k] by simp [List.getD, hk]]
    exact List.getElem_mem _
/-- how often a text stands in the ordered difference -/
noncomputable def dcnt (es as : List Str) (x : Str) : Nat := if x ∈ as then 0 else if (∀ y ∈ as, ltS y x = true) then es.count x else if x ∈ es then 1 else 0
theorem cnt_lackTo (ss os : List Str) (x : Str) : ∀ i, i ≤ ss.length → (lackTo ss os i).count x = dcnt (ss.take i) os x
  | 0, _ => by
    simp [lackTo, dcnt]
  | i + 1, hi => by
    have ih := cnt_lackTo ss os x i (by walk_at "o")
    rw [lackTo_succ, List.count_append, ih]
    have e : ss.take (i + 1) = ss.take i ++ [ss.getD i Str.empty] := by
      rw [List.take_add_one, List.getD_eq_getElem?_getD, List.getElem?_eq_getElem (by walk_at "o")]
      rfl
    rw [e]
    generalize hy : ss.getD i Str.empty = y
    have hk : lackKeep ss os i = true ↔ (y ∉ os ∧ (y ∉ ss.take i ∨ os = [] ∨ ltS (maxS os) y = true)) := by
      unfold lackKeep
      rw [hy]
      simp only [Bool.and_eq_true, Bool.not_eq_true', Bool.or_eq_true, decide_eq_true_eq, List.any_eq_false, beq_iff_eq]
      constructor
      · rintro ⟨h1, (h2 | h2) | h3⟩
        · exact ⟨fun hm => h1 y hm rfl, .inl fun hm => h2 y hm rfl⟩
        · exact ⟨fun hm => h1 y hm rfl, .inr (.inl h2)⟩
        · exact ⟨fun hm => h1 y hm rfl, .inr (.inr h3)⟩
      · rintro ⟨h1, h2 | h2 | h3⟩
        · exact ⟨fun z hz e => h1 (e ▸ hz), .inl (.inl fun z hz e => h2 (e ▸ hz))⟩
        · exact ⟨fun z hz e => h1 (e ▸ hz), .inl (.inr h2)⟩
        · exact ⟨fun z hz e => h1 (e ▸ hz), .inr h3⟩
    have hg : (os = [] ∨ ltS (maxS os) y = true) ↔ ∀ z ∈ os, ltS z y = true := by
      by_cases c : os = []
      · subst c; simp
      · rw [max_is c y]; simp [c]
    rw [hg] at hk
    unfold dcnt
    by_cases hxo : x ∈ os
    · simp only [hxo, if_true]
      by_cases c : lackKeep ss os i = true
      · rw [if_pos c]
        have : y ≠ x := fun e => (hk.mp c).1 (e ▸ hxo)
        simp [List.count_cons, this]
      · rw [if_neg c]; rfl
    · simp only [hxo, if_false]
      by_cases hall : ∀ z ∈ os, ltS z x = true
      · simp only [if_pos hall, List.count_append]
        congr 1
        by_cases exy : y = x
        · subst exy
          rw [if_pos (hk.mpr ⟨hxo, .inr hall⟩)]
        · by_cases c : lackKeep ss os i = true
          · rw [if_pos c]
          · rw [if_neg c]; simp [List.count_cons, exy]
      · simp only [if_neg hall]
        by_cases exy : y = x
        · subst exy
          by_cases hm : y ∈ ss.take i
          · rw [if_pos hm, if_pos (List.mem_append_left _ hm), if_neg]
            · rfl
            · intro c
              rcases (hk.mp c).2 with h | h
              · exact h hm
              · exact hall h
          · rw [if_neg hm, if_pos (List.mem_append_right _ (.head _)), if_pos (hk.mpr ⟨hxo, .inl hm⟩)]
            simp
        · have e2 : (if lackKeep ss os i = true then [y] else []).count x = 0 := by
            split
            · simp [List.count_cons, exy]
            · rfl
          rw [e2, Nat.add_zero]
          have : (x ∈ ss.take i ++ [y]) ↔ x ∈ ss.take i := by
            simp [Ne.symm exy]
          simp only [this]
/-- a sorted list behind its first text -/
theorem drop_gt {e : Str} {es : List Str} (h : Srt (e :: es)) : (∀ y ∈ es.dropWhile (· == e), ltS e y = true) ∧ Srt (es.dropWhile (· == e)) := by
  have hs : Srt (es.dropWhile (· == e)) := (List.pairwise_cons.mp h).2.sublist (List.dropWhile_sublist _)
  refine ⟨fun y hy => ?_, hs⟩
  cases hd : es.dropWhile (· == e) with
  | nil => rw [hd] at hy; cases hy
  | cons z r =>
    have hz : (z == e) = false := by
      have := List.head?_dropWhile_not (· == e) es
      rw [hd] at this
      simpa using this
    have hze : z ≠ e := by simpa using hz
    have hmem : z ∈ es := (List.dropWhile_sublist (· == e)).subset (hd ▸ List.mem_cons_self ..)
    have h1 : ltS z e = false := (List.pairwise_cons.mp h).1 z hmem
    have h2 : ltS e z = true := by
      cases c : ltS e z with
      | true => rfl
      | false => exact absurd (ltS_tri h1 c) hze
    rw [hd] at hy hs
    rcases List.mem_cons.mp hy with rfl | hy
    · exact h2
    · exact ltS_le h2 ((List.pairwise_cons.mp hs).1 y hy)
theorem cnt_drop {e x : Str} (h : x ≠ e) : ∀ es : List Str, (es.dropWhile (· == e)).count x = es.count x ∧ (x ∈ es.dropWhile (· == e) ↔ x ∈ es)
  | [] => ⟨rfl, Iff.rfl⟩
  | y :: r => by
    rw [List.dropWhile_cons]
    by_cases c : (y == e) = true
    · rw [if_pos c]
      have ey : y = e := by simpa using c
      obtain ⟨h1, h2⟩ := cnt_drop h r
      subst ey
      refine ⟨by rw [h1, List.count_cons_of_ne (Ne.symm h)], by rw [h2]; simp [h]⟩
    · rw [if_neg c]
      exact ⟨rfl, Iff.rfl⟩
theorem cnt_drop1 {e x : Str} (h : x ≠ e) (es : List Str) : (es.dropWhile (· == e)).count x = (e :: es).count x ∧ (x ∈ es.dropWhile (· == e) ↔ x ∈ e :: es) := by
  obtain ⟨h1, h2⟩ := cnt_drop h es
  exact ⟨by rw [h1, List.count_cons_of_ne (Ne.symm h)], by rw [h2]; simp [h]⟩
theorem sld_swap (es as : List Str) : sld as es = ((sld es as).2, (sld es as).1) := by
  induction es, as using sld.induct with
  | case1 as => rw [sld_end (.inr rfl), sld_end (.inl rfl)]
  | case2 e es => rw [sld_end (.inl rfl), sld_end (.inr rfl)]
  | case3 e es a as h ih =>
    rw [sld, if_neg (by rw [ltS_asymm h]; decide), if_pos h, ih, sld, if_pos h]
  | case4 e es a as h h2 ih =>
    rw [sld, if_pos h2, ih, sld, if_neg h, if_pos h2]
  | case5 e es a as h h2 ih =>
    have h1 : ltS e a = false := by simpa using h
    have h3 : ltS a e = false := by simpa using h2
    rw [sld, if_neg h2, if_neg h, ih, sld, if_neg h, if_neg h2]
theorem sld_sub (es as : List Str) : (sld es as).1.Sublist es := by
  induction es, as using sld.induct with
  | case1 as => rw [sld]; exact List.Sublist.refl _
  | case2 e es => rw [sld]; exact List.Sublist.refl _
  | case3 e es a as h ih =>
    rw [sld, if_pos h]
    exact (ih.trans (List.dropWhile_sublist _)).cons₂ _
  | case4 e es a as h h2 ih =>
    rw [sld, if_neg h, if_pos h2]
    exact ih
  | case5 e es a as h h2 ih =>
    rw [sld, if_neg h, if_neg h2]
    exact (ih.trans (List.dropWhile_sublist _)).cons _
theorem gt_all {x a : Str} {as : List Str} (hx : ltS a x = true) : (∀ y ∈ as.dropWhile (· == a), ltS y x = true) ↔ ∀ y ∈ a :: as, ltS y x = true := by
  constructor
  · intro h y hy
    by_cases e : y = a
    · rw [e]; exact hx
    · exact h y ((cnt_drop1 e as).2.mpr hy)
  · intro h y hy
    exact h y (.tail _ ((List.dropWhile_sublist _).subset hy))
theorem cnt_sld (x : Str) (es as : List Str) (he : Srt es) (ha : Srt as) : (sld es as).1.count x = dcnt es as x := by
  induction es, as using sld.induct with
  | case1 as =>
    rw [sld]
    unfold dcnt
    split
    · rfl
    · split <;> simp
  | case2 e es =>
    rw [sld]
    unfold dcnt
    simp
  | case3 e es a as h ih =>
    obtain ⟨d1, d3⟩ := drop_gt he
    have ih := ih d3 ha
    have hae : ∀ y ∈ a :: as, ltS e y = true := fun y hy => by
      rcases List.mem_cons.mp hy with rfl | hy
      · exact h
      · exact ltS_le h ((List.pairwise_cons.mp ha).1 y hy)
    rw [sld, if_pos h]
    dsimp only
    by_cases ex : x = e
    · subst ex
      have n1 : x ∉ a :: as := fun hm => by have := hae x hm; rw [ltS_irrefl] at this; cases this
      have n2 : x ∉ es.dropWhile (· == x) := fun hm => by have := d1 x hm; rw [ltS_irrefl] at this; cases this
      have n3 : ¬ ∀ y ∈ a :: as, ltS y x = true := fun hm => by have := hm a (.head _); rw [ltS_asymm h] at this; cases this
      rw [List.count_cons_self, ih]
      unfold dcnt
      rw [if_neg n1, if_neg n3, if_neg n2, if_neg n1, if_neg n3, if_pos (List.mem_cons_self ..)]
    · obtain ⟨c1, c2⟩ := cnt_drop1 ex es
      rw [List.count_cons_of_ne (Ne.symm ex), ih]
      unfold dcnt
      simp only [c1, c2]
  | case4 e es a as h h2 ih =>
    obtain ⟨d1, d3⟩ := drop_gt ha
    have ih := ih he d3
    have hae : ∀ y ∈ e :: es, ltS a y = true := fun y hy => by
      rcases List.mem_cons.mp hy with rfl | hy
      · exact h2
      · exact ltS_le h2 ((List.pairwise_cons.mp he).1 y hy)
    rw [sld, if_neg h, if_pos h2]
    dsimp only
    rw [ih]
    unfold dcnt
    by_cases ex : x = a
    · subst ex
      have n1 : x ∉ as.dropWhile (· == x) := fun hm => by have := d1 x hm; rw [ltS_irrefl] at this; cases this
      have n2 : x ∉ e :: es := fun hm => by have := hae x hm; rw [ltS_irrefl] at this; cases this
      rw [if_neg n1, if_pos (List.mem_cons_self ..), if_neg n2, List.count_eq_zero_of_not_mem n2]
      split <;> rfl
    · obtain ⟨c1, c2⟩ := cnt_drop1 ex as
      simp only [c2]
      by_cases hx : x ∈ e :: es
      · simp only [gt_all (hae x hx)]
      · rw [if_neg hx, List.count_eq_zero_of_not_mem hx]
        split
        · rfl
        · split <;> split <;> rfl
  | case5 e es a as h h2 ih =>
    have h1 : ltS e a = false := by simpa using h
    have h3 : ltS a e = false := by simpa using h2
    have eq : e = a := ltS_tri h1 h3
    obtain ⟨d1, d3⟩ := drop_gt he
    obtain ⟨f1, f3⟩ := drop_gt ha
    have ih := ih d3 f3
    rw [sld, if_neg h, if_neg h2, ih]
    subst eq
    unfold dcnt
    by_cases ex : x = e
    · subst ex
      have n1 : x ∉ as.dropWhile (· == x) := fun hm => by have := f1 x hm; rw [ltS_irrefl] at this; cases this
      have n2 : x ∉ es.dropWhile (· == x) := fun hm => by have := d1 x hm; rw [ltS_irrefl] at this; cases this
      rw [if_neg n1, if_pos (List.mem_cons_self ..), if_neg n2, List.count_eq_zero_of_not_mem n2]
      split <;> rfl
    · obtain ⟨c1, c2⟩ := cnt_drop1 ex as
      obtain ⟨c3, c4⟩ := cnt_drop1 ex es
      simp only [c2, c3, c4]
      by_cases hx : x ∈ e :: es
      · have hex : ltS e x = true := d1 x (c4.mpr hx)
        simp only [gt_all hex]
      · rw [if_neg hx, List.count_eq_zero_of_not_mem hx]
        split
        · rfl
        · split <;> split <;> rfl
theorem dcnt_perm {es es' as as' : List Str} (h1 : es.Perm es') (h2 : as.Perm as') (x : Str) : dcnt es as x = dcnt es' as' x := by
  unfold dcnt
  simp only [h1.count_eq, h1.mem_iff, h2.mem_iff]
/-- the ordered difference is what is lacking, in order -/
theorem sld_lack {ss os es as za zb : List Str} (he : Srt es) (pe : es.Perm ss) (ha : Srt as) (pa : as.Perm os) (hz : Srt za) (pz : za.Perm (lackTo ss os ss.length)) (hy : Srt zb) (py : zb.Perm (lackTo os ss os.length)) : sld es as = (za, zb) := by
  have half : ∀ {ss os es as za : List Str}, Srt es → es.Perm ss → Srt as → as.Perm os → Srt za → za.Perm (lackTo ss os ss.length) → (sld es as).1 = za := by
    intro ss os es as za he pe ha pa hz pz
    refine srt_eq (he.sublist (sld_sub es as)) hz ((List.perm_iff_count.mpr fun x => ?_).trans pz.symm)
    rw [cnt_sld x es as he ha, cnt_lackTo ss os x _ (Nat.le_refl _), List.take_length]
    exact dcnt_perm pe pa x
  refine Prod.ext (half he pe ha pa hz pz) ?_
  have := half ha pa he pe hy py
  rw [sld_swap] at this
  exact this
end
section
theorem cntS_eq (x : Str) : ∀ l : List Str, cntS x l = (l.count x : Int)
  | [] => rfl
  | y :: r => by
    have ih := cntS_eq x r
    show (if PySem.Spec.same (.str y) (.str x) = true then (1 : Int) else 0) + cntS x r = _
    rw [ih, List.count_cons]
    have e : PySem.Spec.same (.str y) (.str x) = (y == x) := by simp [PySem.Spec.same]
    rw [e]
    split <;> simp <;> walk_at "o"
theorem filtTo_cons (p : Nat → Bool) (x : Str) (r : List Str) : ∀ n, filtTo p (x :: r) (n + 1) = (if p 0 = true then [x] else []) ++ filtTo (fun k => p (k + 1)) r n
  | 0 => by
    rw [filtTo_succ]
    simp [filtTo]
  | n + 1 => by
    rw [filtTo_succ, filtTo_cons p x r n, filtTo_succ, List.append_assoc]
    rfl
/-- what of a list is missing in another -/
noncomputable def missF (as : List Str) : List Str → List Str
  | [] => []
  | x :: r => (if as.count x < (x :: r).count x then [x] else []) ++ missF as r
theorem miss_eq (as : List Str) : ∀ es : List Str, filtTo (missKeep es as) es es.length = missF as es
  | [] => rfl
  | x :: r => by
    rw [List.length_cons, filtTo_cons]
    have ih := miss_eq as r
    have e0 : missKeep (x :: r) as 0 = decide (as.count x < (x :: r).count x) := by
      unfold missKeep
      rw [cntS_eq, cntS_eq]
      show decide ((as.count x : Int) < ((x :: r).count x : Int)) = _
      simp only [Int.ofNat_lt]
    have e1 : (fun k => missKeep (x :: r) as (k + 1)) = missKeep r as := by
      funext k
      unfold missKeep
      rfl
    rw [e1, ih, e0, show missF as (x :: r) = (if as.count x < (x :: r).count x then [x] else []) ++ missF as r from rfl]
    simp only [decide_eq_true_eq]
theorem unord_app : ∀ (a b as ms : List Str), unord (a ++ b) as ms = unord b (unord a as ms).2 (unord a as ms).1
  | [], b, as, ms => rfl
  | x :: r, b, as, ms => by
    rw [List.cons_append, unord, unord]
    split
    · exact unord_app r b _ _
    · exact unord_app r b _ _
theorem unord_snd : ∀ (l as ms : List Str), (unord l as ms).2 = l.foldl List.erase as
  | [], _, _ => rfl
  | x :: r, as, ms => by
    rw [unord, List.foldl_cons]
    split
    · exact unord_snd r _ _
    · rename_i c
      rw [List.erase_of_not_mem c]
      exact unord_snd r _ _
theorem count_fold (x : Str) : ∀ (l as : List Str), (l.foldl List.erase as).count x = as.count x - l.count x
  | [], _ => rfl
  | y :: r, as => by
    rw [List.foldl_cons, count_fold x r, List.count_cons]
    by_cases e : y = x
    · subst e
      rw [List.count_erase_self]
      simp
      walk_at "o"
    · rw [List.count_erase_of_ne (Ne.symm e)]
      simp [e]
theorem unord_fst (as : List Str) : ∀ es : List Str, (unord es.reverse as []).1 = (missF as es).reverse
  | [] => rfl
  | x :: r => by
    have ih := unord_fst as r
    rw [List.reverse_cons, unord_app, missF, List.reverse_append, ih]
    have hs := unord_snd r.reverse as []
    have hc := count_fold x r.reverse as
    rw [List.count_reverse] at hc
    have hm : x ∈ (unord r.reverse as []).2 ↔ ¬ as.count x < (x :: r).count x := by
      rw [hs, ← List.count_pos_iff, hc, List.count_cons_self]
      walk_at "o"
    rw [unord, unord, unord]
    by_cases c : as.count x < (x :: r).count x
    · rw [if_pos c, if_neg (fun h => hm.mp h c)]
      rfl
    · rw [if_neg c, if_pos (hm.mpr c)]
      simp
/-- what is left of a list when of each text the first so and so many are taken -/
noncomputable def keepF (c : Str → Nat) : List Str → List Str
  | [] => []
  | y :: r => if c y = 0 then y :: keepF c r else keepF (fun z => if z = y then c z - 1 else c z) r
theorem keep_zero : ∀ l : List Str, keepF (fun _ => 0) l = l
  | [] => rfl
  | y :: r => by rw [keepF, if_pos rfl, keep_zero r]
theorem keep_erase (x : Str) : ∀ (l : List Str) (c : Str → Nat), (keepF c l).erase x = keepF (fun z => if z = x then c z + 1 else c z) l
  | [], _ => rfl
  | y :: r, c => by
    rw [keepF, keepF]
    by_cases h : c y = 0
    · rw [if_pos h]
      by_cases e : y = x
      · subst e
        rw [List.erase_cons_head, if_neg (by simp)]
        congr 1
        funext z
        by_cases ez : z = y
        · subst ez; simp
        · simp [ez]
      · rw [List.erase_cons_tail (by simpa using e), if_pos (by simp [e, h]), keep_erase x r c]
    · rw [if_neg h, keep_erase x r, if_neg]
      · congr 1
        funext z
        by_cases e : z = y
        · subst e
          by_cases ex : z = x
          · subst ex; simp; walk_at "o"
          · simp [ex]
        · simp [e]
      · by_cases ex : y = x
        · simp [ex]
        · simp [ex, h]
theorem keep_fold : ∀ (l as : List Str), l.foldl List.erase as = keepF (fun z => l.count z) as := by
  intro l as
  suffices h : ∀ (l : List Str) (c : Str → Nat), l.foldl List.erase (keepF c as) = keepF (fun z => c z + l.count z) as by
    have := h l (fun _ => 0)
    rw [keep_zero] at this
    simpa using this
  intro l
  induction l with
  | nil => intro c; simp
  | cons x r ih =>
    intro c
    rw [List.foldl_cons, keep_erase, ih]
    congr 1
    funext z
    rw [List.count_cons]
    by_cases e : z = x
    · subst e; simp; walk_at "o"
    · simp [e, Ne.symm e]
theorem keep_snoc (y : Str) : ∀ (l : List Str) (c : Str → Nat), keepF c (l ++ [y]) = keepF c l ++ (if c y < (l ++ [y]).count y then [y] else [])
  | [], c => by
    rw [List.nil_append, keepF, keepF]
    by_cases h : c y = 0
    · rw [if_pos h, if_pos (by simp; walk_at "o")]; rfl
    · rw [if_neg h, if_neg (by simp; walk_at "o")]; rfl
  | z :: r, c => by
    rw [List.cons_append, keepF, keepF]
    by_cases h : c z = 0
    · rw [if_pos h, if_pos h, keep_snoc y r c, List.cons_append]
      congr 2
      by_cases e : z = y
      · subst e
        rw [List.count_cons_self, if_pos (by rw [h]; simp), if_pos (by walk_at "o")]
      · rw [List.count_cons_of_ne e]
    · rw [if_neg h, if_neg h, keep_snoc y r]
      congr 1
      by_cases e : z = y
      · subst e
        rw [List.count_cons_self]
        simp only [if_true]
        by_cases k : c z < (r ++ [z]).count z + 1
        · rw [if_pos k, if_pos (by walk_at "o")]
        · rw [if_neg k, if_neg (by walk_at "o")]
      · rw [List.count_cons_of_ne e]
        simp only [if_neg (Ne.symm e)]
theorem keep_left (es as : List Str) : ∀ i, i ≤ as.length → filtTo (leftKeep es as) as i = keepF (fun z => es.count z) (as.take i)
  | 0, _ => rfl
  | i + 1, hi => by
    have e : as.take (i + 1) = as.take i ++ [as.getD i Str.empty] := by
      rw [List.take_add_one, List.getD_eq_getElem?_getD, List.getElem?_eq_getElem (by walk_at "o")]
      rfl
    rw [filtTo_succ, keep_left es as i (by walk_at "o"), e, keep_snoc]
    congr 1
    have e2 : leftKeep es as i = decide (es.count (as.getD i Str.empty) < (as.take i ++ [as.getD i Str.empty]).count (as.getD i Str.empty)) := by
      unfold leftKeep
      rw [cntS_eq, cntS_eq, e]
      simp only [Int.ofNat_lt]
    rw [e2]
    simp only [decide_eq_true_eq]
/-- the unordered difference is what was told -/
theorem unord_told (es as : List Str) : unord es.reverse as [] = ((filtTo (missKeep es as) es es.length).reverse, filtTo (leftKeep es as) as as.length) := by
  refine Prod.ext ?_ ?_
  · rw [unord_fst, miss_eq]
  · rw [unord_snd, keep_fold, keep_left es as _ (Nat.le_refl _), List.take_length]
    congr 1
    funext z
    exact List.count_reverse
end
section
theorem tape_facts {ts : List Str} (hp : ∀ x ∈ ts, x ∈ piecesL) (hl : ts.length ≤ 20) (n : Nat) {tp : List Int} (h : tp = (tapeAll ts).take n) : (∀ x ∈ tp, 0 ≤ x ∧ x < 256) ∧ tp.length ≤ 200 ∧ (∀ c, ts.length ≤ c → (runRS tp (c + 1) rs0).ts = (whole tp).1 ∧ (runRS tp (c + 1) rs0).rf = (whole tp).2) ∧
    ∃ j, j ≤ ts.length ∧ (whole tp).1 = ts.take j ∧ ((tapeAll ts).length ≤ n → (whole tp).1 = ts) := by
  subst h
  obtain ⟨j, hj, hw, hall⟩ := whole_cut ts n
  have hsh := tape_short (ts := ts) fun x hx => piece_len (hp x hx)
  refine ⟨fun x hx => tape_byte hp x (List.mem_of_mem_take hx), ?_, fun c hc => read_whole _ c ?_, j, hj, hw, fun h => ?_⟩
  · rw [List.length_take]; walk_at "o"
  · rw [hw, List.length_take]; walk_at "o"
  · rw [hw, hall h, List.take_length]
theorem okS_take {ts : List Str} (hp : ∀ x ∈ ts, x ∈ piecesL) (j : Nat) : OkS (ts.take j) := fun x hx => piece_ok (hp x (List.mem_of_mem_take hx))
theorem ok_of (s : String) : PyData.strOk (Str.ofString s) = true := by
  rw [PySem.Str.ofString_eq_toList]
  unfold PyData.strOk
  simp only [Array.all_eq_true']
  intro x hx
  simp only [List.mem_toArray, List.mem_map] at hx
  obtain ⟨c, _, rfl⟩ := hx
  have h := c.valid
  have : c.toNat < 0x110000 := by
    have h2 : c.toNat.isValidChar := h
    unfold Nat.isValidChar at h2
    walk_at "o"
  simpa using this
theorem ok_app {a b : Str} (ha : PyData.strOk a = true) (hb : PyData.strOk b = true) : PyData.strOk (a ++ b) = true := by
  unfold PyData.strOk at *
  show (a.cps ++ b.cps).all _ = true
  rw [Array.all_append, ha, hb]
  rfl
theorem expected_ok (c k : Int) : PyData.strOk (expectedMsg c k) = true := ok_app (ok_app (ok_app (ok_app (ok_of _) (ok_of _)) (ok_of _)) (ok_of _)) (ok_of _)
theorem refusal_ok : ∀ (n : Nat) (tp : List Int), tp.length ≤ n → PyData.strOk (whole tp).2 = true
  | _, [], _ => by rw [whole]; exact ok_of _
  | 0, _ :: _, h => absurd h (by simp)
  | n + 1, c :: r, h => by
    rw [whole]
    split
    · exact expected_ok _ _
    · exact refusal_ok n _ (by rw [List.length_drop]; simp at h; walk_at "o")
theorem off3_app {I C D : Addr} : ∀ {a b : List (Addr × Obj)}, LCg.Off3 I C D a → LCg.Off3 I C D b → LCg.Off3 I C D (a ++ b)
  | [], _, _, h => h
  | _ :: _, _, h, h' => ⟨h.1, off3_app h.2 h'⟩
theorem compEnd_read {h₀ h' : Heap} {L I C D d l : Addr} {m : Str → Option Value} {s₁ : Shared} {oI oC oD od ol : Obj} {P : Value → List (Addr × Obj) → Prop} {S : List (Addr × Obj) → Prop} {y : Value} {tk : Nat} {own rest nx : List (Addr × Obj)}
    (F : Fr h₀ L h' m) (N : News h₀ L h' ((d, od) :: (l, ol) :: (own ++ (I, oI) :: (C, oC) :: (D, oD) :: rest))) (offr : LCg.Off3 I C D rest) (hown : ∀ q ∈ own, ∀ p ∈ (I, oI) :: (C, oC) :: (D, oD) :: nx, p.1 < q.1) (hnew : ∀ p ∈ (I, oI) :: (C, oC) :: (D, oD) :: nx, d ≠ p.1 ∧ l ≠ p.1)
    (hS : S ((d, od) :: (l, ol) :: (rest ++ own))) (r : P y ((d, od) :: (l, ol) :: (rest ++ own))) : LCg.CompEnd h₀ L m s₁ I oI C oC D oD S P y { s₁ with heap := h', toks := tk } := by
  have mI : (I, oI) ∈ (I, oI) :: (C, oC) :: (D, oD) :: nx := .head _
  have mC : (C, oC) ∈ (I, oI) :: (C, oC) :: (D, oD) :: nx := .tail _ (.head _)
  have mD : (D, oD) ∈ (I, oI) :: (C, oC) :: (D, oD) :: nx := .tail _ (.tail _ (.head _))
  refine LCg.CompEnd.intro F N ((d, od) :: (l, ol) :: (rest ++ own)) (fun p hp => ?_) ⟨⟨(hnew _ mI).1, (hnew _ mC).1, (hnew _ mD).1⟩, ⟨(hnew _ mI).2, (hnew _ mC).2, (hnew _ mD).2⟩, off3_app offr (LCg.Off3.of fun q hq => ⟨Nat.ne_of_gt (hown q hq _ mI), Nat.ne_of_gt (hown q hq _ mC), Nat.ne_of_gt (hown q hq _ mD)⟩)⟩ hS r
  simp only [List.mem_cons, List.mem_append] at hp ⊢
  rcases hp with h | h | h | h | h | h | h
  · exact .inr (.inr (.inr (.inl h)))
  · exact .inr (.inr (.inr (.inr (.inl h))))
  · exact .inr (.inr (.inr (.inr (.inr (.inl h)))))
  · exact .inl h
  · exact .inr (.inl h)
  · exact .inr (.inr (.inr (.inr (.inr (.inr h)))))
  · exact .inr (.inr (.inl h))
end
section
noncomputable abbrev twoC (elt t0 i0 t1 i1 c1 : Expr) (scope : Scope) (pos : Pos) : Expr := .ListComp elt [⟨t0, i0, [], 0⟩, ⟨t1, i1, [c1], 0⟩] scope pos
theorem turn_two0 (elt t0 i0 t1 i1 c1 : Expr) (scope : Scope) (pos : Pos) (it acc : Value) (env : Env) :
    compTurn (twoC elt t0 i0 t1 i1 c1 scope pos) 0 it acc env = (do
      standAt i0.pos
      match ← pyNext it with
      | none => pure (.done .next)
      | some v =>
        letOwnedTupleGo t0 it v
        assign t0 env v
        let mut ok := true
        for c in ([] : List Expr) do
          if ok then ok ← isTrue c env (eval c env)
        if ok then
          let x ← eval i1 env
          standAt i1.pos
          let x ← foldedSetIterable i1 env x
          let _ ← runOwn (.compStart (twoC elt t0 i0 t1 i1 c1 scope pos) 1 (← holding [x] (pyIter x)) acc env) env
        again (.compLoop (twoC elt t0 i0 t1 i1 c1 scope pos) 0 it acc env)) := by rfl
theorem turn_two1 (elt t0 i0 t1 i1 c1 : Expr) (scope : Scope) (pos : Pos) (it acc : Value) (env : Env) :
    compTurn (twoC elt t0 i0 t1 i1 c1 scope pos) 1 it acc env = (do
      standAt i1.pos
      match ← pyNext it with
      | none => pure (.done .next)
      | some v =>
        letOwnedTupleGo t1 it v
        assign t1 env v
        let mut ok := true
        for c in [c1] do
          if ok then ok ← isTrue c env (eval c env)
        if ok then
          (do let _ ← call (.builtin "list.append") [acc, ← eval elt env])
        again (.compLoop (twoC elt t0 i0 t1 i1 c1 scope pos) 1 it acc env)) := by rfl
section
variable {prog : Program} {w : World} {A : Around} {R : Result → Shared → Prop} {s : Shared} {elt t0 i0 t1 i1 c1 : Expr} {scope : Scope} {pos : Pos} {it acc : Value} {env : Env}
theorem loop_two1 (I : Nat → Shared → Prop)
    (turn : ∀ n s, I n s → wpAny (model prog w) A (pyNext it) (fun r s₁ => match r with
      | none => R (.ok .next) s₁
      | some v => wpAny (model prog w) A (assign t1 env v) (fun _ s₂ =>
          wpAny (model prog w) A (isTrue c1 env (eval c1 env)) (fun ok s₃ =>
            if ok = true then wpAny (model prog w) A (eval elt env) (fun x s₄ =>
              wpAny (model prog w) A (call (.builtin "list.append") [acc, x]) (fun _ s₅ => ∃ m, m < n ∧ I m s₅) (notedBy (model prog w) A env fun e s' => R (.error e) s') s₄) (notedBy (model prog w) A env fun e s' => R (.error e) s') s₃
            else ∃ m, m < n ∧ I m s₃) (notedBy (model prog w) A env fun e s' => R (.error e) s') s₂) (notedBy (model prog w) A env fun e s' => R (.error e) s') s₁) (notedBy (model prog w) A env fun e s' => R (.error e) s') s)
    (n : Nat) (h : I n s) (ht : ∀ v, letOwnedTupleGo t1 it v = pure () := by intro _; rfl) :
    codeAny (model prog w) A (.compLoop (twoC elt t0 i0 t1 i1 c1 scope pos) 1 it acc env) R s := by
  refine codeAny_loop rfl I (fun n s hI => ?_) n h
  show wpAny _ A ((compTurn (twoC elt t0 i0 t1 i1 c1 scope pos) 1 it acc env).onRaise (fun x => do noteFrame x env; theTreesLotGoes x)) _ _ s
  refine wpAny_noted ?_
  rw [turn_two1]
  refine wpAny_bind (wpAny_standAt (wpAny_bind (wpAny_mono (turn n s hI) (fun r s₁ h₁ => ?_) fun _ _ h' => h')))
  cases r with
  | none => exact wpAny_pure h₁
  | some v =>
    refine wpAny_bind (wpAny_of_eq (ht v) ?_)
    refine wpAny_bind (wpAny_mono h₁ (fun _ s₂ h₂ => wpAny_bind (wpAny_tests_one (wpAny_mono h₂ (fun ok s₃ h₃ => ?_) fun _ _ h' => h'))) fun _ _ h' => h')
    cases ok with
    | false => exact wpAny_pure ⟨rfl, h₃⟩
    | true =>
      exact wpAny_bind (wpAny_bind (wpAny_mono h₃ (fun x s₄ h₄ => wpAny_bind (wpAny_mono h₄ (fun _ s₅ h₅ => wpAny_pure (wpAny_pure ⟨rfl, h₅⟩)) fun _ _ h' => h')) fun _ _ h' => h'))
theorem start_two1 (h0 : codeAny (model prog w) A (.compLoop (twoC elt t0 i0 t1 i1 c1 scope pos) 1 it acc env) R s)
    (h : wpAny (model prog w) A (pyIter it) (fun it' s' => codeAny (model prog w) A (.compLoop (twoC elt t0 i0 t1 i1 c1 scope pos) 1 it' acc env) R s')
      (notedBy (model prog w) A env fun x s' => R (.error x) s') s) :
    codeAny (model prog w) A (.compStart (twoC elt t0 i0 t1 i1 c1 scope pos) 1 it acc env) R s := by
  refine codeAny_of_tree ?_
  show wpAny _ _ ((compStart (twoC elt t0 i0 t1 i1 c1 scope pos) 1 it acc env).onRaise (fun x => do noteFrame x env; standAt theWindowsPlace)) _ _ s
  refine wpAny_notedAt ?_
  unfold compStart
  show wpAny _ _ (ask >>= _) _ _ s
  refine wpAny_bind (wpAny_askSetting (wpAny_ite ?_))
  split
  · first
      | exact wpAny_bind (wpAny_pure (wpAny_pure (And.intro rfl h0)))
      | exact wpAny_pure (And.intro rfl h0)
  · first
      | exact wpAny_bind (wpAny_rule (wpAny_bind (wpAny_standAt (wpAny_bind (wpAny_mono h (fun it' s' h' => wpAny_pure (And.intro rfl h')) fun _ _ x => x)))))
      | (refine wpAny_bind (wpAny_rule ?_); show wpAny _ _ (standAt i1.pos >>= _) _ _ s; exact wpAny_bind (wpAny_standAt (wpAny_bind (wpAny_mono h (fun it' s' h' => wpAny_pure (And.intro rfl h')) fun _ _ x => x))))
theorem start_two0 (h0 : codeAny (model prog w) A (.compLoop (twoC elt t0 i0 t1 i1 c1 scope pos) 0 it acc env) R s)
    (h : wpAny (model prog w) A (pyIter it) (fun it' s' => codeAny (model prog w) A (.compLoop (twoC elt t0 i0 t1 i1 c1 scope pos) 0 it' acc env) R s')
      (notedBy (model prog w) A env fun x s' => R (.error x) s') s) :
    codeAny (model prog w) A (.compStart (twoC elt t0 i0 t1 i1 c1 scope pos) 0 it acc env) R s := by
  refine codeAny_of_tree ?_
  show wpAny _ _ ((compStart (twoC elt t0 i0 t1 i1 c1 scope pos) 0 it acc env).onRaise (fun x => do noteFrame x env; standAt theWindowsPlace)) _ _ s
  refine wpAny_notedAt ?_
  unfold compStart
  show wpAny _ _ (ask >>= _) _ _ s
  refine wpAny_bind (wpAny_askSetting (wpAny_ite ?_))
  split
  · first
      | exact wpAny_bind (wpAny_pure (wpAny_pure (And.intro rfl h0)))
      | exact wpAny_pure (And.intro rfl h0)
  · first
      | exact wpAny_bind (wpAny_rule (wpAny_bind (wpAny_standAt (wpAny_bind (wpAny_mono h (fun it' s' h' => wpAny_pure (And.intro rfl h')) fun _ _ x => x)))))
      | (refine wpAny_bind (wpAny_rule ?_); show wpAny _ _ (standAt i0.pos >>= _) _ _ s; exact wpAny_bind (wpAny_standAt (wpAny_bind (wpAny_mono h (fun it' s' h' => wpAny_pure (And.intro rfl h')) fun _ _ x => x))))
theorem loop_two0 (I : Nat → Shared → Prop)
    (turn : ∀ n s, I n s → wpAny (model prog w) A (pyNext it) (fun r s₁ => match r with
      | none => R (.ok .next) s₁
      | some v => wpAny (model prog w) A (assign t0 env v) (fun _ s₂ =>
          wpAny (model prog w) A (eval i1 env) (fun x s₃ => wpAny (model prog w) A (pyIter x) (fun it' s₄ =>
            codeAny (model prog w) A (.compStart (twoC elt t0 i0 t1 i1 c1 scope pos) 1 it' acc env) (fun r s₅ => match r with | .ok _ => ∃ m, m < n ∧ I m s₅ | .error _ => False) s₄)
            (notedBy (model prog w) A env fun e s' => R (.error e) s') s₃) (notedBy (model prog w) A env fun e s' => R (.error e) s') s₂) (notedBy (model prog w) A env fun e s' => R (.error e) s') s₁) (notedBy (model prog w) A env fun e s' => R (.error e) s') s)
    (n : Nat) (h : I n s) (ht : ∀ v, letOwnedTupleGo t0 it v = pure () := by intro _; rfl) (hf : ∀ x, foldedSetIterable i1 env x = pure x := by intro _; rfl) :
    codeAny (model prog w) A (.compLoop (twoC elt t0 i0 t1 i1 c1 scope pos) 0 it acc env) R s := by
  refine codeAny_loop rfl I (fun n s hI => ?_) n h
  show wpAny _ A ((compTurn (twoC elt t0 i0 t1 i1 c1 scope pos) 0 it acc env).onRaise (fun x => do noteFrame x env; theTreesLotGoes x)) _ _ s
  refine wpAny_noted ?_
  rw [turn_two0]
  refine wpAny_bind (wpAny_standAt (wpAny_bind (wpAny_mono (turn n s hI) (fun r s₁ h₁ => ?_) fun _ _ h' => h')))
  cases r with
  | none => exact wpAny_pure h₁
  | some v =>
    refine wpAny_bind (wpAny_of_eq (ht v) ?_)
    refine wpAny_bind (wpAny_mono h₁ (fun _ s₂ h₂ => wpAny_bind (wpAny_tests_nil ?_)) fun _ _ h' => h')
    simp only [if_true]
    refine wpAny_bind (wpAny_mono h₂ (fun x s₃ h₃ => wpAny_bind (wpAny_standAt (wpAny_bind (wpAny_of_eq (hf x) (wpAny_bind (wpAny_holding (wpAny_mono h₃ (fun it' s₄ h₄ => ?_) fun _ _ h' => h'))))))) fun _ _ h' => h')
    refine wpAny_bind (wpAny_runOwn ?_)
    show codeAny _ A _ _ s₄
    refine codeAny_mono h₄ fun r s₅ hr => ?_
    cases r with
    | ok f => exact wpAny_pure ⟨rfl, hr⟩
    | error e => exact hr.elim
end
end
section
theorem nat_lt' {a b : Nat} (h : a < b) : a < b := h
open LCg in
inductive MJ (s : Shared) (h₀ : Heap) (L : Addr) (m : Str → Option Value) (I : Addr) (K : Nat) (ss : List Str) (news : List (Addr × Obj)) (k : Nat) (s' : Shared) : Prop
  | mk (h' : Heap) (tk' i : Nat) (ys : List Value) (m' : Str → Option Value) (h1 : s' = { s with heap := h', toks := tk' }) (h2 : i ≤ K) (h3 : k = K + 1 - i) (h4 : IsRangeIter h' I (0 + (i : Nat) * 1) ((K : Int) - (i : Nat)) 1) (h5 : Fr h₀ L h' m) (h6 : h'.Ns (I + 1 + 1) m') (h7 : News h₀ L h' ((I + 1, lst ys) :: news)) (h8 : StrsAre ys ((List.range i).flatMap fun (k : Nat) => ss.filter fun z => decide ((z.length : Int) = (k : Int)))) (h9 : ys.length ≤ i * 40) : MJ s h₀ L m I K ss news k s'
open LCg in
inductive NJ (s₀ : Shared) (h₀ : Heap) (L : Addr) (m : Str → Option Value) (x : Str) (i : Int) (t5 : Tok) (C D I I2 l : Addr) (oI : Obj) (vs : List Value) (ss : List Str) (news : List (Addr × Obj)) (acc : List Str) (ys : List Value) (k : Nat) (s' : Shared) : Prop
  | mk (h' : Heap) (tk' j : Nat) (ys' : List Value) (mC' : Str → Option Value) (h1 : s' = { s₀ with heap := h', toks := tk' }) (h2 : j ≤ vs.length) (h3 : k = vs.length + 1 - j) (h4 : (h'.IsListIter I2 l j ∧ h'.IsList l vs.toArray)) (h5 : Fr h₀ L h' m) (h6 : h'.Ns C mC') (h7 : mC' x = some (.int i t5)) (h8 : News h₀ L h' ((I, oI) :: (D, lst ys') :: news)) (h9 : StrsAre ys' (acc ++ (ss.take j).filter fun z => decide ((z.length : Int) = i))) (h10 : ys'.length ≤ ys.length + j) : NJ s₀ h₀ L m x i t5 C D I I2 l oI vs ss news acc ys k s'
section
open LCg
variable {prog : Program} {w : World} {A : Around} {h₀ : Heap} {L : Addr} {m : Str → Option Value} {env : Env} {elt t0 i0 i1 c1 : Expr} {x y : Str} {px py : Pos} {scope : Scope} {cl : List (Str × Addr)} {pos : Pos}
/-- the inner loop, over a list of texts -/
theorem inner_two {R : Result → Shared → Prop} (s₀ : Shared) (hh : A.handled = none) (hkind : scope.kind = .function) (hy : scope.names.lookup y = some .local) (hxy : x ≠ y)
    (i : Int) (t5 : Tok) (C D I I2 l : Addr) (oI : Obj) (vs : List Value) (ss : List Str) (news : List (Addr × Obj)) (acc : List Str) (ys : List Value) (h : Heap) (tk : Nat) (mC : Str → Option Value)
    (hst : h.IsListIter I2 l 0 ∧ h.IsList l vs.toArray) (hne : l ≠ I2) (F : Fr h₀ L h m) (N : News h₀ L h ((I, oI) :: (D, lst ys) :: news)) (hns : h.Ns C mC) (hmx : mC x = some (.int i t5)) (hC0 : h₀.get? C = none) (hCL : C ≠ L) (h20 : h₀.get? I2 = none) (h2L : I2 ≠ L)
    (d1 : C ≠ D) (d2 : I ≠ C) (d3 : I ≠ D) (d4 : I2 ≠ C) (d5 : I2 ≠ D) (d6 : I2 ≠ I) (d7 : l ≠ C) (d8 : l ≠ D) (offn : ∀ p ∈ news, p.1 ≠ C ∧ p.1 ≠ D ∧ p.1 ≠ I2)
    (hys : StrsAre ys acc) (hvs : StrsAre vs ss) (hsz : ys.length + ss.length ≤ 1000)
    (htest : ∀ oC mC h tk (E' : Value → Shared → Prop) z tz, NsObj oC mC → mC x = some (.int i t5) → mC y = some (.str z tz) → z ∈ ss → Fr h₀ L h m → News h₀ L h [(C, oC)] → wpAny (model prog w) A (isTrue c1 (compEnvC scope cl C env) (eval c1 (compEnvC scope cl C env))) (fun b s₁ => b = decide ((z.length : Int) = i) ∧ ∃ tk', s₁ = { s₀ with heap := h, toks := tk' }) E' { s₀ with heap := h, toks := tk })
    (helt : ∀ oC mC h tk (E' : Value → Shared → Prop) z tz, NsObj oC mC → mC y = some (.str z tz) → Fr h₀ L h m → News h₀ L h [(C, oC)] → wpAny (model prog w) A (eval elt (compEnvC scope cl C env)) (fun v s₁ => v = .str z tz ∧ ∃ tk', s₁ = { s₀ with heap := h, toks := tk' }) E' { s₀ with heap := h, toks := tk })
    (hR : ∀ h' tk' ys' mC', Fr h₀ L h' m → News h₀ L h' ((I, oI) :: (D, lst ys') :: news) → h'.Ns C mC' → StrsAre ys' (acc ++ ss.filter fun z => decide ((z.length : Int) = i)) → R (.ok .next) { s₀ with heap := h', toks := tk' }) :
    codeAny (model prog w) A (.compLoop (twoC elt t0 i0 (.Name y py) i1 c1 scope pos) 1 (.ref I2) (.ref D) (compEnvC scope cl C env)) R { s₀ with heap := h, toks := tk } := by
  have hvl := hvs.length
  have W := Walks.list (prog := prog) (w := w) hh I2 l hne vs.toArray
  refine loop_two1 (NJ s₀ h₀ L m x i t5 C D I I2 l oI vs ss news acc ys) ?_ (vs.length + 1)
    ⟨h, tk, 0, ys, mC, rfl, Nat.zero_le _, rfl, hst, F, hns, hmx, N, by simpa using hys, Nat.le_refl _⟩
  rintro k s' ⟨h', tk', j, ys', mC', rfl, hj, rfl, hst', F', hn', hmx', N', hys', hyl⟩
  by_cases hlt : j < vs.length
  · refine W.item j _ _ _ (by simpa using hlt) hst' fun v h₂ tk₂ hv hst₂ hk₂ => ?_
    have hjs : j < ss.length := by walk_at "o"
    obtain ⟨tz, ez⟩ := hvs.get j (ss.getD j Str.empty) (by rw [List.getD_eq_getElem?_getD, List.getElem?_eq_getElem hjs]; rfl)
    have ev : v = .str (ss.getD j Str.empty) tz := by
      have hv' : vs[j]? = some v := by simpa using hv
      rw [ez] at hv'
      exact (Option.some.inj hv').symm
    subst ev
    have hzm : ss.getD j Str.empty ∈ ss := by
      rw [List.getD_eq_getElem?_getD, List.getElem?_eq_getElem hjs]; exact List.getElem_mem _
    have etk : ss.take (j + 1) = ss.take j ++ [ss.getD j Str.empty] := by
      rw [List.take_add_one, List.getD_eq_getElem?_getD, List.getElem?_eq_getElem hjs]
      rfl
    generalize ss.getD j Str.empty = z at *
    refine wpAny_assign_Name (wpAny_storeName_local (lookup_relabel_local hy) (hn'.at' fun o e => hk₂ _ o (by simpa using Ne.symm d4) e) (fun h₃ hn₃ hs₃ => ?_) (by simp [compEnvC, relabel, hkind]))
    have F₃ : Fr h₀ L h₃ m := (fr_but F' hk₂ (Ne.symm h2L) h20).change hs₃ hCL hC0
    have N₂ : News h₀ L h₂ ((I, oI) :: (D, lst ys') :: news) := news_but N' hk₂ fun p hp => by
      rcases List.mem_cons.mp hp with rfl | hp
      · exact Ne.symm d6
      · rcases List.mem_cons.mp hp with rfl | hp
        · exact Ne.symm d5
        · exact (offn p hp).2.2
    have N₃ : News h₀ L h₃ ((I, oI) :: (D, lst ys') :: news) := fun p hp => by
      have z9 := N₂ p hp
      refine ⟨hs₃.extBut _ _ ?_ z9.1, z9.2⟩
      rcases List.mem_cons.mp hp with rfl | hp
      · exact d2
      · rcases List.mem_cons.mp hp with rfl | hp
        · exact Ne.symm d1
        · exact (offn p hp).1
    have hst₃ : h₃.IsListIter I2 l (j + 1) ∧ h₃.IsList l vs.toArray := W.frame _ _ _ hst₂ fun b hb o e => hs₃.extBut b o (fun q => by
      have q' : b = C := q
      rw [q'] at hb
      rcases List.mem_cons.mp hb with e1 | hb
      · exact d4 e1.symm
      · exact d7 (List.mem_singleton.mp hb).symm) e
    obtain ⟨oC, heC, hoC⟩ := ns_obj hn₃
    have NC : News h₀ L h₃ [(C, oC)] := fun p hp => by
      rw [List.mem_singleton.mp hp]; exact ⟨heC, hCL, hC0⟩
    refine wpAny_mono (htest oC _ h₃ _ _ z tz hoC (by simp [hxy, hmx']) (by simp) hzm F₃ NC) (fun b s₄ hb => ?_) fun _ _ e => e
    obtain ⟨rfl, tk4, rfl⟩ := hb
    by_cases hc : (z.length : Int) = i
    · rw [decide_eq_true hc]
      simp only [if_true]
      refine wpAny_mono (helt oC _ h₃ _ _ z tz hoC (by simp) F₃ NC) (fun v s₅ hv => ?_) fun _ _ e => e
      obtain ⟨rfl, tk5, rfl⟩ := hv
      refine append_at (hsz := by show ys'.toArray.size ≤ sizeLine; rw [List.size_toArray, sizeLine_eq]; walk_at "o") (N₃ (D, lst ys') (.tail _ (.head _))).1 fun h₅ hs₅ hD₅ => ?_
      refine ⟨vs.length + 1 - (j + 1), Nat.sub_succ_lt_self _ _ (Nat.lt_succ_of_lt hlt), h₅, tk5, j + 1, ys' ++ [.str z tz], _, rfl, hlt, rfl, W.frame _ _ _ hst₃ fun b hb o e => hs₅.extBut b o (fun q => by
          have q' : b = D := q
          rw [q'] at hb
          rcases List.mem_cons.mp hb with e1 | hb
          · exact d5 e1.symm
          · exact d8 (List.mem_singleton.mp hb).symm) e, F₃.change hs₅ (N₃ (D, lst ys') (.tail _ (.head _))).2.1 (N₃ (D, lst ys') (.tail _ (.head _))).2.2, (hoC.ns heC).sameBut hs₅ d1, by simp [hxy, hmx'], fun p hp => ?_, ?_, by rw [List.length_append, List.length_singleton]; walk_at "o"⟩
      · rcases List.mem_cons.mp hp with rfl | hp
        · have z9 := N₃ (I, oI) (.head _)
          exact ⟨hs₅.extBut _ _ d3 z9.1, z9.2⟩
        · rcases List.mem_cons.mp hp with rfl | hp
          · exact ⟨hD₅.trans (congrArg some (lst_snoc ys' _)), (N₃ (D, lst ys') (.tail _ (.head _))).2⟩
          · have z9 := N₃ p (.tail _ (.tail _ hp))
            exact ⟨hs₅.extBut _ _ (offn p hp).2.1 z9.1, z9.2⟩
      · rw [etk, List.filter_append, ← List.append_assoc]
        refine hys'.append' ?_
        rw [List.filter_cons, if_pos (decide_eq_true hc)]
        exact .cons _ _ .nil
    · rw [decide_eq_false hc]
      simp only [Bool.false_eq_true, if_false]
      refine ⟨vs.length + 1 - (j + 1), Nat.sub_succ_lt_self _ _ (Nat.lt_succ_of_lt hlt), h₃, tk4, j + 1, ys', _, rfl, hlt, rfl, hst₃, F₃, hn₃, by simp [hxy, hmx'], N₃, ?_, by walk_at "o"⟩
      rw [etk, List.filter_append, List.filter_cons, if_neg (by simpa using hc)]
      simpa using hys'
  · have ej : j = vs.length := by walk_at "o"
    subst ej
    refine W.done _ _ _ (by simpa using hst') fun h₂ tk₂ hk₂ => ?_
    rw [hvl, List.take_length] at hys'
    refine hR h₂ tk₂ ys' mC' (fr_but F' hk₂ (Ne.symm h2L) h20) (news_but N' hk₂ fun p hp => ?_) (hn'.at' fun o e => hk₂ _ o (by simpa using Ne.symm d4) e) hys'
    rcases List.mem_cons.mp hp with rfl | hp
    · exact Ne.symm d6
    · rcases List.mem_cons.mp hp with rfl | hp
      · exact Ne.symm d5
      · exact (offn p hp).2.2
/-- a comprehension of two clauses: over a range, and over a list of texts with a test of the length -/
theorem comp_two {E : Value → Shared → Prop} {s : Shared} {Q : Value → Shared → Prop} (K : Nat) (news : List (Addr × Obj)) (ss : List Str) (hh : A.handled = none)
    (hclos : closureFor scope env = pure cl) (hcell : ∀ z ∈ scope.names, z.2 ≠ .cell) (hkind : scope.kind = .function)
    (hnames : ∀ z ∈ scope.names, z.2 = .local → scope.names.lookup z.1 = some .local) (hx : scope.names.lookup x = some .local) (hy : scope.names.lookup y = some .local) (hxy : x ≠ y) (hK : K ≤ 20) (hz : ss.length ≤ 40)
    (h : wpAny (model prog w) A (eval i0 env) (fun xv s₁ => ∃ r t u v h' tk', xv = .ref r ∧ s₁ = { s with heap := h', toks := tk' } ∧ Fr h₀ L h' m ∧ News h₀ L h' news ∧ IsRange h' r 0 (K : Int) 1 t u v) E s)
    (hsrc : ∀ (i : Nat) C oC mC I oI D ys h tk (E' : Value → Shared → Prop) t5, i < K → NsObj oC mC → mC x = some (.int (i : Int) t5) → Fr h₀ L h m → News h₀ L h ((I, oI) :: (C, oC) :: (D, lst ys) :: news) →
      wpAny (model prog w) A (eval i1 (compEnvC scope cl C env)) (fun v s₁ => ∃ l vs n h' tk', v = .ref l ∧ s₁ = { s with heap := h', toks := tk' } ∧ Fr h₀ L h' m ∧ News h₀ L h' ((l, ({ cls := .type "list", data := .seq (List.toArray vs) n } : Obj)) :: (I, oI) :: (C, oC) :: (D, lst ys) :: news) ∧ (@Ne Nat l C) ∧ (@Ne Nat l D) ∧ StrsAre vs ss) E' { s with heap := h, toks := tk })
    (htest : ∀ (i : Nat) C oC mC h tk (E' : Value → Shared → Prop) t5 z tz, i < K → NsObj oC mC → mC x = some (.int (i : Int) t5) → mC y = some (.str z tz) → z ∈ ss → Fr h₀ L h m → News h₀ L h [(C, oC)] → wpAny (model prog w) A (isTrue c1 (compEnvC scope cl C env) (eval c1 (compEnvC scope cl C env))) (fun b s₁ => b = decide ((z.length : Int) = (i : Int)) ∧ ∃ tk', s₁ = { s with heap := h, toks := tk' }) E' { s with heap := h, toks := tk })
    (helt : ∀ C oC mC h tk (E' : Value → Shared → Prop) z tz, NsObj oC mC → mC y = some (.str z tz) → Fr h₀ L h m → News h₀ L h [(C, oC)] → wpAny (model prog w) A (eval elt (compEnvC scope cl C env)) (fun v s₁ => v = .str z tz ∧ ∃ tk', s₁ = { s with heap := h, toks := tk' }) E' { s with heap := h, toks := tk })
    (fin : ∀ D h tk ys, Fr h₀ L h m → News h₀ L h ((D, lst ys) :: news) → StrsAre ys ((List.range K).flatMap fun (k : Nat) => ss.filter fun z => decide ((z.length : Int) = (k : Int))) → Q (.ref D) { s with heap := h, toks := tk })
    (hs : ∀ x, foldedSetIterable i0 env x = pure x := by intro _; rfl) (hf : ∀ v, foldedSetIterable i1 env v = pure v := by intro _; rfl) (hf2 : ∀ e v, foldedSetIterable i1 e v = pure v := by intro _ _; rfl) :
    wpAny (model prog w) A (eval (twoC elt (.Name x px) i0 (.Name y py) i1 c1 scope pos) env) Q E s := by
  rw [eval_ListComp]
  refine wpAny_comprehension_free (use := none) rfl hs hclos hkind hnames (wpAny_mono h (fun xv s₁ h₁ => ?_) fun _ _ e => e)
  obtain ⟨r, t, u, v, h₁, tk₁, rfl, rfl, F, N, hr⟩ := h₁
  have hsm : Builtin.Range.small 0 (K : Int) 1 = true := by
    have key : ∀ c < 101, Builtin.Range.small 0 ((c : Nat) : Int) 1 = true := by decide +kernel
    exact key K (by walk_at "o")
  refine wpAny_pyIter_range hr hsm ?_
  have hn : Builtin.Range.rangeSize 0 (K : Int) 1 = ((K : Nat) : Int) := by
    rw [rangeSize_nat]; simp
  rw [hn]
  have up : ∀ b o, h₁.get? b = some o → (h₁.push { cls := .type "range_iterator", data := .fields #[rawInt 0, rawInt (K : Int), rawInt 1] }).get? b = some o := fun b o e => Heap.get?_push_of_some _ e
  have hIat : (h₁.push { cls := .type "range_iterator", data := .fields #[rawInt 0, rawInt (K : Int), rawInt 1] }).get? h₁.objs.size = some { cls := .type "range_iterator", data := .fields #[rawInt 0, rawInt (K : Int), rawInt 1] } := Heap.get?_push_size _ rfl
  have hsz0 : (h₁.push { cls := .type "range_iterator", data := .fields #[rawInt 0, rawInt (K : Int), rawInt 1] }).objs.size = h₁.objs.size + 1 := Heap.size_push ..
  have hlow : ∀ p ∈ news, p.1 < h₁.objs.size := fun p hp => Heap.lt_size (N p hp).1
  have hLlt : L < h₁.objs.size := F.ns.lt
  have F2 := F.keeps up
  have N2 := N.grown up
  have fresh₀ : ∀ a, h₁.objs.size ≤ a → h₀.get? a = none := fun a ha => Heap.get?_none_of_le (Nat.le_trans F.above (Nat.le_trans (Nat.le_of_lt hLlt) ha))
  clear F N up hr
  generalize (h₁.push { cls := .type "range_iterator", data := .fields #[rawInt 0, rawInt (K : Int), rawInt 1] }) = Hs at *
  generalize h₁.objs.size = I at *
  refine wpAny_newObj_type (wpAny_newFunctionEnv hcell (by intro y hy; simp at hy) (fun h₂ hns₂ hsb₂ => ?_) hkind)
  dsimp only at hns₂ hsb₂ ⊢
  generalize hH2 : Hs.push { cls := .type "list", dict := none, data := .seq ([] : List Value).toArray } = H2 at hns₂ hsb₂ ⊢
  have hC : H2.objs.size = I + 1 + 1 := by rw [← hH2, Heap.size_push, hsz0]
  have old2 : ∀ b o, Hs.get? b = some o → H2.get? b = some o := fun b o e => hH2 ▸ Heap.get?_push_of_some _ e
  have hD2 : H2.get? Hs.objs.size = some (lst []) := hH2 ▸ Heap.get?_push_size _ rfl
  rw [hsz0] at hD2 ⊢
  rw [hC] at hns₂ hsb₂ ⊢
  have old : ∀ b o, Hs.get? b = some o → h₂.get? b = some o := fun b o e => hsb₂.extBut b o (Nat.ne_of_lt (by have := Heap.lt_size e; rw [hsz0] at this; exact Nat.lt_succ_of_lt this)) (Heap.get?_push_of_some _ (old2 b o e))
  have hD : h₂.get? (I + 1) = some (lst []) := hsb₂.extBut _ _ (Nat.ne_of_lt (Nat.lt_succ_self _)) (Heap.get?_push_of_some _ hD2)
  have hI₂ := old _ _ hIat
  have F3 := F2.keeps old
  have N3 : News h₀ L h₂ ((I + 1, lst []) :: news) := fun p hp => by
    rcases List.mem_cons.mp hp with rfl | hp
    · exact ⟨hD, neN (by have := nat_lt' hLlt; dsimp only; walk_at "o"), fresh₀ _ (Nat.le_succ _)⟩
    · exact ⟨old _ _ (N2 p hp).1, (N2 p hp).2⟩
  clear F2 N2 hD2 old2 hH2 hIat hsb₂ hsz0 old
  have hCL : (I + 1 + 1 : Addr) ≠ L := neN (by have := nat_lt' hLlt; walk_at "o")
  have hC0 := fresh₀ (I + 1 + 1) (Nat.le_trans (Nat.le_succ _) (Nat.le_succ _))
  have hIL : (L : Addr) ≠ I := Nat.ne_of_lt hLlt
  have hI0 := fresh₀ I (Nat.le_refl _)
  have offn : ∀ p ∈ news, p.1 ≠ I ∧ p.1 ≠ I + 1 ∧ p.1 ≠ I + 1 + 1 := fun p hp => by
    have := nat_lt' (hlow p hp)
    exact ⟨neN (by walk_at "o"), neN (by walk_at "o"), neN (by walk_at "o")⟩
  have W := range_walks (prog := prog) (w := w) (A := A) (I := I) hh 0 K
  have loop : ∀ s₃ : Shared, s₃ = { s with heap := h₂, toks := tk₁ + ([] : List (Str × Value)).length } →
      codeAny (model prog w) A (.compLoop (twoC elt (.Name x px) i0 (.Name y py) i1 c1 scope pos) 0 (.ref I) (.ref (I + 1)) (compEnvC scope cl (I + 1 + 1) env)) (compPost (model prog w) A E none Q (.ref (I + 1)) (I + 1 + 1)) s₃ := by
    rintro s₃ rfl
    obtain ⟨J, hJ⟩ : ∃ J : Nat → Shared → Prop, J = MJ s h₀ L m I K ss news := ⟨_, rfl⟩
    refine loop_two0 J ?_ (K + 1) (by
      rw [hJ]
      exact ⟨h₂, _, 0, [], _, rfl, Nat.zero_le _, rfl, by show h₂.get? I = some _; simpa using hI₂, F3, hns₂, N3, .nil, Nat.zero_le _⟩) (hf := hf)
    intro k s' hk9
    rw [hJ] at hk9
    obtain ⟨h', tk', i, ys, m', rfl, hi, rfl, hst', F', hn', N', hys, hyl⟩ := hk9
    by_cases hlt : i < K
    · refine W.item i _ _ _ hlt hst' fun v h₃ tk₃ hPv hst₃ hk₃ => ?_
      obtain ⟨t5, rfl⟩ := hPv
      rw [Int.zero_add]
      refine wpAny_assign_Name (wpAny_storeName_local (lookup_relabel_local hx) (hn'.at' fun o e => hk₃ _ o (by
        intro hm
        have := List.mem_singleton.mp hm
        have : I + 1 + 1 = I := this
        walk_at "o") e) (fun h₄ hn₄ hs₄ => ?_) (by simp [compEnvC, relabel, hkind]))
      have F₄ : Fr h₀ L h₄ m := (fr_but F' hk₃ hIL hI0).change hs₄ hCL hC0
      have N₃ : News h₀ L h₃ ((I + 1, lst ys) :: news) := news_but N' hk₃ fun p hp => by
        rcases List.mem_cons.mp hp with rfl | hp
        · exact neN (by dsimp only; walk_at "o")
        · exact (offn p hp).1
      obtain ⟨oC, heC, hoC⟩ := ns_obj hn₄
      have hI₄ : IsRangeIter h₄ I (0 + ((i + 1 : Nat) : Int) * 1) ((K : Int) - ((i + 1 : Nat) : Int)) 1 := W.frame _ _ _ hst₃ fun b hb o e => hs₄.extBut b o (fun q => by
        have q' : b = I + 1 + 1 := q
        have := List.mem_singleton.mp hb
        rw [q'] at this
        have : I + 1 + 1 = I := this
        walk_at "o") e
      have hI₅ : h₄.get? I = some _ := hI₄
      generalize hoI : ({ cls := .type "range_iterator", data := .fields #[rawInt (0 + ((i + 1 : Nat) : Int) * 1), rawInt ((K : Int) - ((i + 1 : Nat) : Int)), rawInt 1] } : Obj) = oI at hI₅
      have N₄ : News h₀ L h₄ ((I, oI) :: (I + 1 + 1, oC) :: (I + 1, lst ys) :: news) := fun p hp => by
        rcases List.mem_cons.mp hp with rfl | hp
        · exact ⟨hI₅, hIL.symm, hI0⟩
        · rcases List.mem_cons.mp hp with rfl | hp
          · exact ⟨heC, hCL, hC0⟩
          · have z9 := N₃ p hp
            refine ⟨hs₄.extBut _ _ ?_ z9.1, z9.2⟩
            rcases List.mem_cons.mp hp with rfl | hp
            · exact Nat.ne_of_lt (Nat.lt_succ_self (I + 1))
            · exact (offn p hp).2.2
      refine wpAny_mono (hsrc i (I + 1 + 1) oC _ I oI (I + 1) ys h₄ _ _ t5 hlt hoC (by simp) F₄ N₄) (fun v s₅ hv => ?_) fun _ _ e => e
      obtain ⟨l, vs, n, h₅, tk₅, rfl, rfl, F₅, N₅, hlC, hlD, hvs⟩ := hv
      have hl5 : h₅.IsList l vs.toArray := ⟨_, (N₅ _ (.head _)).1, rfl, _, rfl⟩
      refine wpAny_pyIter_list hl5 ?_
      have up5 : ∀ b o, h₅.get? b = some o → (h₅.push { cls := .type "list_iterator", data := .fields #[.ref l, .int 0 0] }).get? b = some o := fun b o e => Heap.get?_push_of_some _ e
      have hlow5 : ∀ p ∈ (l, ({ cls := .type "list", data := .seq (List.toArray vs) n } : Obj)) :: (I, oI) :: (I + 1 + 1, oC) :: (I + 1, lst ys) :: news, p.1 < h₅.objs.size := fun p hp => Heap.lt_size (N₅ p hp).1
      have hst5 : (h₅.push { cls := .type "list_iterator", data := .fields #[.ref l, .int 0 0] }).IsListIter h₅.objs.size l 0 ∧ (h₅.push { cls := .type "list_iterator", data := .fields #[.ref l, .int 0 0] }).IsList l vs.toArray := ⟨⟨_, Heap.get?_push_size _ rfl, rfl, rfl⟩, hl5.push _⟩
      have hne5 : l ≠ h₅.objs.size := Nat.ne_of_lt (hlow5 _ (.head _))
      have hL5 : L < h₅.objs.size := F₅.ns.lt
      have h20 := next_is_new F₅
      have F₆ := F₅.keeps up5
      have N₆ := N₅.grown up5
      generalize (h₅.push { cls := .type "list_iterator", data := .fields #[.ref l, .int 0 0] }) = h₆ at *
      have a1 := nat_lt' (hlow5 _ (.tail _ (.head _)))
      have a2 := nat_lt' (hlow5 _ (.tail _ (.tail _ (.head _))))
      have a3 := nat_lt' (hlow5 _ (.tail _ (.tail _ (.tail _ (.head _)))))
      dsimp only at a1 a2 a3
      have inner : codeAny (model prog w) A (.compLoop (twoC elt (.Name x px) i0 (.Name y py) i1 c1 scope pos) 1 (.ref h₅.objs.size) (.ref (I + 1)) (compEnvC scope cl (I + 1 + 1) env)) (fun r s₅ => match r with | .ok _ => ∃ m₂, m₂ < K + 1 - i ∧ J m₂ s₅ | .error _ => False) { s with heap := h₆, toks := tk₅ } := by
        refine inner_two s hh hkind hy hxy (i : Int) t5 (I + 1 + 1) (I + 1) I h₅.objs.size l oI vs ss news _ ys h₆ tk₅ _ hst5 hne5 F₆ (news_sub N₆ fun p hp => ?_) (hoC.ns (N₆ _ (.tail _ (.tail _ (.head _)))).1) (by simp) hC0 hCL h20 (Nat.ne_of_gt hL5)
          (neN (by walk_at "o")) (neN (by walk_at "o")) (neN (by walk_at "o")) (neN (by walk_at "o")) (neN (by walk_at "o")) (neN (by walk_at "o")) hlC hlD (fun p hp => ⟨(offn p hp).2.2, (offn p hp).2.1, Nat.ne_of_lt (hlow5 p (.tail _ (.tail _ (.tail _ (.tail _ hp)))))⟩) hys hvs (by have : i * 40 ≤ 20 * 40 := Nat.mul_le_mul_right _ (by walk_at "o"); walk_at "o")
          (fun oC mC h tk E' z tz a b c d e f => htest i (I + 1 + 1) oC mC h tk E' t5 z tz hlt a b c d e f) (fun oC mC h tk E' z tz a b c d => helt (I + 1 + 1) oC mC h tk E' z tz a b c d) ?_
        · rcases List.mem_cons.mp hp with rfl | hp
          · exact .tail _ (.head _)
          · exact .tail _ (.tail _ (.tail _ hp))
        · intro h7 tk7 ys7 mC7 F7 N7 ns7 hys7
          have hl7 := hys7.length
          have hl6 := hys.length
          have hfl := List.length_filter_le (fun z => decide ((z.length : Int) = (i : Int))) ss
          rw [List.length_append] at hl7
          refine ⟨K + 1 - (i + 1), Nat.sub_succ_lt_self _ _ (Nat.lt_succ_of_lt hlt), ?_⟩
          rw [hJ]
          refine ⟨h7, tk7, i + 1, ys7, mC7, rfl, hlt, rfl, ?_, F7, ns7, fun p hp => N7 p (.tail _ hp), ?_, by walk_at "o"⟩
          · have := (N7 _ (.head _)).1
            rw [← hoI] at this
            exact this
          · rw [List.range_succ, List.flatMap_append]
            simpa using hys7
      exact start_two1 inner ((Walks.list (prog := prog) (w := w) hh h₅.objs.size l hne5 vs.toArray).self 0 _ _ _ hst5 inner)
    · have ej : i = K := by walk_at "o"
      subst ej
      refine W.done _ _ _ hst' fun h₃ tk₃ hk₃ => ?_
      refine ⟨m', hn'.at' fun o e => hk₃ _ o (by
        intro hm
        have := List.mem_singleton.mp hm
        have : I + 1 + 1 = I := this
        walk_at "o") e, fun h'' hs'' => fin (I + 1) h'' tk₃ ys ((fr_but F' hk₃ hIL hI0).change hs'' hCL hC0) (fun p hp => ?_) hys⟩
      have z9 : h₃.get? p.1 = some p.2 := (news_but N' hk₃ (fun p hp => by
        rcases List.mem_cons.mp hp with rfl | hp
        · exact neN (by dsimp only; walk_at "o")
        · exact (offn p hp).1) p hp).1
      refine ⟨hs''.extBut _ _ ?_ z9, (N' p hp).2⟩
      rcases List.mem_cons.mp hp with rfl | hp
      · exact neN (by dsimp only; walk_at "o")
      · exact (offn p hp).2.2
  exact start_two0 (loop _ rfl) (W.self 0 _ _ _ (by show h₂.get? I = some _; simpa using hI₂) (loop _ rfl))
end
end
section
theorem it0 (a : Value) (l : List Value) : (List.toArray (a :: l))[(0 : Int).toNat]? = some a := by simp
theorem it1 (a b : Value) (l : List Value) : (List.toArray (a :: b :: l))[(1 : Int).toNat]? = some b := by simp
theorem fmod4 (x : Int) : 0 ≤ x.fmod 4 ∧ x.fmod 4 < 4 := by
  rw [Int.fmod_eq_emod_of_nonneg _ (by decide)]
  walk_at "o"
theorem byLen_eq (ss : List Str) : ((List.range 4).flatMap fun (k : Nat) => ss.filter fun z => decide ((z.length : Int) = (k : Int))) = byLen ss := by
  unfold byLen
  congr 1
  funext k
  refine List.filter_congr fun z _ => ?_
  by_cases c : z.length = k
  · simp [c]
  · have h1 : (z.length == k) = false := by simpa using c
    rw [h1]
    simp only [decide_eq_false_iff_not]
    walk_at "o"
theorem nat_le {a b : Nat} (h : a ≤ b) : a ≤ b := h
theorem nat_ne {a b : Nat} (h : a ≠ b) : a ≠ b := h
theorem ne_nat {a b : Nat} (h : a ≠ b) : a ≠ b := h
noncomputable def lawFn (P : Params) : List Stmt × Scope := match (hx.heap_1 P).lookup 120 with
  | some ⟨_, _, .func fd, _⟩ => (match fd.body with
    | .stmts b => (b, fd.scope)
    | _ => ([], fd.scope))
  | _ => ([], ⟨.function, [], false, false, []⟩)
end
section
local macro_rules | `(tactic| k_mem) => `(tactic| walk_at "mem")
local macro_rules | `(tactic| k_ne) => `(tactic| first | assumption | exact Mine.ne_nat (by walk_at "o"))
local macro_rules | `(tactic| k_all) => `(tactic| first | exact List.forall_mem_nil _ | assumption | (refine' List.forall_mem_cons.mpr ⟨?a, ?b⟩; (case a => first | assumption | exact Mine.ne_nat (by walk_at "o")); (case b => k_all)))
theorem filtTo_mem {p : Nat → Bool} {ss : List Str} {i : Nat} (hi : i ≤ ss.length) {x : Str} (h : x ∈ filtTo p ss i) : x ∈ ss := by
  unfold filtTo at h
  obtain ⟨k, hk, rfl⟩ := List.mem_map.mp h
  have hk2 := List.mem_range.mp (List.mem_filter.mp hk).1
  rw [List.getD_eq_getElem?_getD, List.getElem?_eq_getElem (by walk_at "o")]
  exact List.getElem_mem _
theorem c_law3 {w : World} {p : Program} {loose : List Str} {mean : ExcName → Option Value} {mg mb : Str → Option Value} (base : Heap) (L fa : Addr) (m : Str → Option Value) (o3 o4 : Obj) (s : Shared) (Q : Flow → Shared → Prop) (E : Value → Shared → Prop)
    (B1 : Below callerA base [] base) (KX : (hd.heap_1 w.params).In base) (T1 : Top p loose mean mg mb base) (hL1 : 121 ≤ L)
    (DO lr lr2 : Addr) (vo wr wr2 : List Value) (no nr nr2 : Nat) (pa pb pc : Array Value) (one two : List Str)
    (F : Fr base L s.heap m) (hm : m (Str.ofString "order") = some (.ref DO))
    (N : News base L s.heap [(DO, listOf vo.toArray no), (lr2, listOf wr2.toArray nr2), (lr, listOf wr.toArray nr), (L + 1 + 1 + 1 + 1, o4), (L + 1 + 1 + 1, o3), (30, tabObj pa), (79, tabObj pb), (117, tabObj pc)])
    (ho3 : o3.data = .cell (some (.ref lr))) (ho4 : o4.data = .cell (some (.ref lr2))) (hwr : StrsAre wr one) (hwr2 : StrsAre wr2 two) (hvo : StrsAre vo (byLen (one ++ two))) (ok1 : OkS one) (ok2 : OkS two) (z1 : one.length ≤ 18) (z2 : two.length ≤ 15) (h3 : ∀ z ∈ one ++ two, z.length ≤ 3)
    (hret : ∀ h' tk' ps1 ps2 ps3 nx m', Fr base L h' m' → News base L h' ((30, tabObj ps1) :: (79, tabObj ps2) :: (117, tabObj ps3) :: nx) → Q (.ret (.bool true)) { s with heap := h', toks := tk' }) :
    wpAny (model Challenge.rw_il0109_01.row.prog w) (callerA.deeper (envOfC (Str.ofString "law") (lawFn w.params).2 L fa (.ref 119))) (execs ((lawFn w.params).1.drop 6) (envOfC (Str.ofString "law") (lawFn w.params).2 L fa (.ref 119))) Q E s := by
  repeat (conv in (lawFn _) => whnf)
  try dsimp only [List.drop]
  revert KX; k_fill; intro KX
  rw [mset hm] at F
  have hL2 := nat_le hL1
  have hl1 := hwr.length
  have hl2 := hwr2.length
  (repeat' (
  (fail_if_success (with_reducible show wpAny _ _ (call (Value.ref _) _ _) _ _ _));
  (fail_if_success (with_reducible show wpAny _ _ (eval (Expr.ListComp _ _ _ _) _) _ _ _));
  (fail_if_success (with_reducible show LCg.CompSrc _ _ _ _ _ _ _ _ _ _ _ _ _ _));
  (fail_if_success (with_reducible show wpAny _ _ (compareOp _ (Value.ref _) (Value.ref _)) _ _ _));
  (fail_if_success (with_reducible show wpAny _ _ (call (Value.builtin "sorted") _ _) _ _ _));
  (fail_if_success (with_reducible show wpAny _ _ (binaryOp _ (Value.ref _) (Value.ref _)) _ _ _));
  (fail_if_success (with_reducible show wpAny _ _ (exec (Stmt.Assign _ (Expr.ListComp _ _ _ _) _) _) _ _ _));
  (first | (k_unfold; (try dsimp only)) | (k_end; wrow_close) | ((with_reducible show wpAny _ _ (subscriptTail _ _ (Value.ref _) (Value.int _ _)) _ _ _); k_dflt (refine' item_tupleT (by first | ((exact News.isTup (by k_asm) (by walk_at "mem")); done) | fail) (by decide) (by decide) (by rfl) (by rfl) ?_)) | ((with_reducible show wpAny _ _ (subscriptTail _ _ (Value.ref _) (Value.int _ _)) _ _ _); k_dflt (refine' item_list (by first | ((exact News.isList (by k_asm) (by walk_at "mem")); done) | fail) (by decide) (by decide) (by first | ((first | exact Mine.it0 _ _ | exact Mine.it1 _ _ _); done) | fail) ?_)) | ((with_reducible show wpAny _ _ (eval (Expr.Name _ _) (compEnvC _ _ _ _)) _ _ _); k_dflt (refine' lcf_free (by k_asm) (by rfl) (by first | ((k_mem); done) | fail) (by k_asm) ?_ (by rfl) (by rfl); k_whole)) | ((with_reducible show wpAny _ _ (subscriptTail _ _ (Value.ref _) (Value.int _ _)) _ _ _); k_dflt (refine' item_list (by first | ((exact News.isList (by k_asm) (by walk_at "mem")); done) | fail) (by decide) (by decide) (by first | ((first | exact Mine.it0 _ _ | exact Mine.it1 _ _ _); done) | fail) ?_)) | (((((k_here; (with_reducible show wpAny _ _ (subscriptTail _ (PySem.Expr.Slice _ _ none _) (Value.ref _) (Value.ref _)) _ _ _); k_dflt (refine' kmk_slice_ints (by k_asm) (by k_asm) (by first | ((kmk_list); done) | fail) (by first | ((kmk_part); done) | fail) (by first | ((kmk_part); done) | fail) (by first | ((l_ints); done) | fail) (by first | ((kmk_nums); done) | fail) (by first | ((kmk_len); done) | fail) ?_ (by with_unfolding_all rfl) (by first | ((kmk_pure); done) | fail) (by first | ((kmk_size); done) | fail)); intro _ _ _ _ _ l1 hI' hC' hL'; (try simp only [Int.reduceNeg, Int.neg_neg, Int.reduceToNat] at hI' hC' hL'); (try k_lt l1)); (try (revert l1; intro _))); (try (revert hI'; intro _))); (try (revert hC'; intro _))); (try (revert hL'; intro _))) | (k_here; (with_reducible show wpAny _ _ (call (Value.builtin "sum") [Value.ref _]) _ _ _); (with_unfolding_all refine' sumK (by with_unfolding_all rfl) (by k_asm) (by k_asm) (by first | ((is_list); done) | fail) (by assumption) ?_; k_whole); intro _ _ _ _ _; (try simp only [List.sum_cons, List.sum_nil])) | (k_here; k_dflt (refine' callWith_K (by k_asm) (by first | ((k_is); done) | fail) ?_; k_whole)) | ((with_reducible show wpAny _ _ (call (Value.type "range") [Value.int _ _]) _ _ _); k_dflt (refine' Mine.range1_own (by k_asm) (by k_asm) ?_); intro _ _ _ _ _ _ _ _ _) | ((with_reducible show wpAny _ _ (call (Value.builtin "len") [Value.ref _]) _ _ _); k_dflt (refine' len_list (by first | ((exact News.isList (by k_asm) (by walk_at "mem")); done) | fail) (by first | ((walk_at "len"); done) | fail) ?_); (try simp only [List.size_toArray])) | (((with_reducible show wpAny _ _ (binaryOp _ (Value.ref _) (Value.ref _)) _ _ _); (rename Fr _ _ _ _ => hF'); (rename News _ _ _ _ => hN'); (refine Mine.add_lists' hF' hN' (by walk_at "mem") (by walk_at "mem") ?_ (by walk_at "len") (by walk_at "len")); clear hF' hN'; intro _ _ _ _ l1; (try k_lt l1)); (try (revert l1; intro _))) | walk1 | (dsimp only; walk1) | (leave1; walk_say "STEP leave1"; try dsimp only))))
  refine' comp_two (h₀ := base) (L := L) (m := fun y => if y = Str.ofString "order" then some (.ref DO) else m y) 4 [(DO, listOf vo.toArray no), (lr2, listOf wr2.toArray nr2), (lr, listOf wr.toArray nr), (L + 1 + 1 + 1 + 1, o4), (L + 1 + 1 + 1, o3), (30, tabObj pa), (79, tabObj pb), (117, tabObj pc)] (one ++ two) rfl ?x3 ?x4 ?x5 ?x6 ?x7 ?x8 ?x9 (by decide) ?x10 ?hr ?hsrc ?htest ?helt ?fin
  case x3 => with_unfolding_all rfl
  case x4 => decide
  case x5 => rfl
  case x6 => decide
  case x7 => rfl
  case x8 => rfl
  case x9 => decide
  case x10 => rw [List.length_append]; walk_at "o"
  case hr =>
    (repeat' (
  (fail_if_success (with_reducible show wpAny _ _ (call (Value.ref _) _ _) _ _ _));
  (fail_if_success (with_reducible show wpAny _ _ (eval (Expr.ListComp _ _ _ _) _) _ _ _));
  (fail_if_success (with_reducible show Exists _));
  (fail_if_success (with_reducible show LCg.CompSrc _ _ _ _ _ _ _ _ _ _ _ _ _ _));
  (fail_if_success (with_reducible show wpAny _ _ (compareOp _ (Value.ref _) (Value.ref _)) _ _ _));
  (fail_if_success (with_reducible show wpAny _ _ (call (Value.builtin "sorted") _ _) _ _ _));
  (fail_if_success (with_reducible show wpAny _ _ (binaryOp _ (Value.ref _) (Value.ref _)) _ _ _));
  (fail_if_success (with_reducible show wpAny _ _ (exec (Stmt.Assign _ (Expr.ListComp _ _ _ _) _) _) _ _ _));
  (first | (k_unfold; (try dsimp only)) | (k_end; wrow_close) | ((with_reducible show wpAny _ _ (subscriptTail _ _ (Value.ref _) (Value.int _ _)) _ _ _); k_dflt (refine' item_tupleT (by first | ((exact News.isTup (by k_asm) (by walk_at "mem")); done) | fail) (by decide) (by decide) (by rfl) (by rfl) ?_)) | ((with_reducible show wpAny _ _ (subscriptTail _ _ (Value.ref _) (Value.int _ _)) _ _ _); k_dflt (refine' item_list (by first | ((exact News.isList (by k_asm) (by walk_at "mem")); done) | fail) (by decide) (by decide) (by first | ((first | exact Mine.it0 _ _ | exact Mine.it1 _ _ _); done) | fail) ?_)) | ((with_reducible show wpAny _ _ (eval (Expr.Name _ _) (compEnvC _ _ _ _)) _ _ _); k_dflt (refine' lcf_free (by k_asm) (by rfl) (by first | ((k_mem); done) | fail) (by k_asm) ?_ (by rfl) (by rfl); k_whole)) | ((with_reducible show wpAny _ _ (subscriptTail _ _ (Value.ref _) (Value.int _ _)) _ _ _); k_dflt (refine' item_list (by first | ((exact News.isList (by k_asm) (by walk_at "mem")); done) | fail) (by decide) (by decide) (by first | ((first | exact Mine.it0 _ _ | exact Mine.it1 _ _ _); done) | fail) ?_)) | (((((k_here; (with_reducible show wpAny _ _ (subscriptTail _ (PySem.Expr.Slice _ _ none _) (Value.ref _) (Value.ref _)) _ _ _); k_dflt (refine' kmk_slice_ints (by k_asm) (by k_asm) (by first | ((kmk_list); done) | fail) (by first | ((kmk_part); done) | fail) (by first | ((kmk_part); done) | fail) (by first | ((l_ints); done) | fail) (by first | ((kmk_nums); done) | fail) (by first | ((kmk_len); done) | fail) ?_ (by with_unfolding_all rfl) (by first | ((kmk_pure); done) | fail) (by first | ((kmk_size); done) | fail)); intro _ _ _ _ _ l1 hI' hC' hL'; (try simp only [Int.reduceNeg, Int.neg_neg, Int.reduceToNat] at hI' hC' hL'); (try k_lt l1)); (try (revert l1; intro _))); (try (revert hI'; intro _))); (try (revert hC'; intro _))); (try (revert hL'; intro _))) | (k_here; (with_reducible show wpAny _ _ (call (Value.builtin "sum") [Value.ref _]) _ _ _); (with_unfolding_all refine' sumK (by with_unfolding_all rfl) (by k_asm) (by k_asm) (by first | ((is_list); done) | fail) (by assumption) ?_; k_whole); intro _ _ _ _ _; (try simp only [List.sum_cons, List.sum_nil])) | (k_here; k_dflt (refine' callWith_K (by k_asm) (by first | ((k_is); done) | fail) ?_; k_whole)) | ((with_reducible show wpAny _ _ (call (Value.type "range") [Value.int _ _]) _ _ _); k_dflt (refine' Mine.range1_own (by k_asm) (by k_asm) ?_); intro _ _ _ _ _ _ _ _ _) | ((with_reducible show wpAny _ _ (call (Value.builtin "len") [Value.ref _]) _ _ _); k_dflt (refine' len_list (by first | ((exact News.isList (by k_asm) (by walk_at "mem")); done) | fail) (by first | ((walk_at "len"); done) | fail) ?_); (try simp only [List.size_toArray])) | (((with_reducible show wpAny _ _ (binaryOp _ (Value.ref _) (Value.ref _)) _ _ _); (rename Fr _ _ _ _ => hF'); (rename News _ _ _ _ => hN'); (refine Mine.add_lists' hF' hN' (by walk_at "mem") (by walk_at "mem") ?_ (by walk_at "len") (by walk_at "len")); clear hF' hN'; intro _ _ _ _ l1; (try k_lt l1)); (try (revert l1; intro _))) | walk1 | (dsimp only; walk1) | (leave1; walk_say "STEP leave1"; try dsimp only))))
    rename Fr base L _ _ => F8
    rename News base L _ _ => N8
    exact ⟨_, _, _, _, _, _, rfl, rfl, F8, news_sub N8 (fun p hp => .tail _ hp), (N8 _ (.head _)).1⟩
  case hsrc =>
    intro i C oC mC I oI D ys h5 tk5 E' t5 hi hC hmx F5 N5
    clear F N
    (repeat' (
  (fail_if_success (with_reducible show wpAny _ _ (call (Value.ref _) _ _) _ _ _));
  (fail_if_success (with_reducible show wpAny _ _ (eval (Expr.ListComp _ _ _ _) _) _ _ _));
  (fail_if_success (with_reducible show Exists _));
  (fail_if_success (with_reducible show LCg.CompSrc _ _ _ _ _ _ _ _ _ _ _ _ _ _));
  (fail_if_success (with_reducible show wpAny _ _ (compareOp _ (Value.ref _) (Value.ref _)) _ _ _));
  (fail_if_success (with_reducible show wpAny _ _ (call (Value.builtin "sorted") _ _) _ _ _));
  (fail_if_success (with_reducible show wpAny _ _ (binaryOp _ (Value.ref _) (Value.ref _)) _ _ _));
  (fail_if_success (with_reducible show wpAny _ _ (exec (Stmt.Assign _ (Expr.ListComp _ _ _ _) _) _) _ _ _));
  (first | (k_unfold; (try dsimp only)) | (k_end; wrow_close) | ((with_reducible show wpAny _ _ (subscriptTail _ _ (Value.ref _) (Value.int _ _)) _ _ _); k_dflt (refine' item_tupleT (by first | ((exact News.isTup (by k_asm) (by walk_at "mem")); done) | fail) (by decide) (by decide) (by rfl) (by rfl) ?_)) | ((with_reducible show wpAny _ _ (subscriptTail _ _ (Value.ref _) (Value.int _ _)) _ _ _); k_dflt (refine' item_list (by first | ((exact News.isList (by k_asm) (by walk_at "mem")); done) | fail) (by decide) (by decide) (by first | ((first | exact Mine.it0 _ _ | exact Mine.it1 _ _ _); done) | fail) ?_)) | ((with_reducible show wpAny _ _ (eval (Expr.Name _ _) (compEnvC _ _ _ _)) _ _ _); k_dflt (refine' lcf_free (by k_asm) (by rfl) (by first | ((k_mem); done) | fail) (by k_asm) ?_ (by rfl) (by rfl); k_whole)) | ((with_reducible show wpAny _ _ (subscriptTail _ _ (Value.ref _) (Value.int _ _)) _ _ _); k_dflt (refine' item_list (by first | ((exact News.isList (by k_asm) (by walk_at "mem")); done) | fail) (by decide) (by decide) (by first | ((first | exact Mine.it0 _ _ | exact Mine.it1 _ _ _); done) | fail) ?_)) | (((((k_here; (with_reducible show wpAny _ _ (subscriptTail _ (PySem.Expr.Slice _ _ none _) (Value.ref _) (Value.ref _)) _ _ _); k_dflt (refine' kmk_slice_ints (by k_asm) (by k_asm) (by first | ((kmk_list); done) | fail) (by first | ((kmk_part); done) | fail) (by first | ((kmk_part); done) | fail) (by first | ((l_ints); done) | fail) (by first | ((kmk_nums); done) | fail) (by first | ((kmk_len); done) | fail) ?_ (by with_unfolding_all rfl) (by first | ((kmk_pure); done) | fail) (by first | ((kmk_size); done) | fail)); intro _ _ _ _ _ l1 hI' hC' hL'; (try simp only [Int.reduceNeg, Int.neg_neg, Int.reduceToNat] at hI' hC' hL'); (try k_lt l1)); (try (revert l1; intro _))); (try (revert hI'; intro _))); (try (revert hC'; intro _))); (try (revert hL'; intro _))) | (k_here; (with_reducible show wpAny _ _ (call (Value.builtin "sum") [Value.ref _]) _ _ _); (with_unfolding_all refine' sumK (by with_unfolding_all rfl) (by k_asm) (by k_asm) (by first | ((is_list); done) | fail) (by assumption) ?_; k_whole); intro _ _ _ _ _; (try simp only [List.sum_cons, List.sum_nil])) | (k_here; k_dflt (refine' callWith_K (by k_asm) (by first | ((k_is); done) | fail) ?_; k_whole)) | ((with_reducible show wpAny _ _ (call (Value.type "range") [Value.int _ _]) _ _ _); k_dflt (refine' Mine.range1_own (by k_asm) (by k_asm) ?_); intro _ _ _ _ _ _ _ _ _) | ((with_reducible show wpAny _ _ (call (Value.builtin "len") [Value.ref _]) _ _ _); k_dflt (refine' len_list (by first | ((exact News.isList (by k_asm) (by walk_at "mem")); done) | fail) (by first | ((walk_at "len"); done) | fail) ?_); (try simp only [List.size_toArray])) | (((with_reducible show wpAny _ _ (binaryOp _ (Value.ref _) (Value.ref _)) _ _ _); (rename Fr _ _ _ _ => hF'); (rename News _ _ _ _ => hN'); (refine Mine.add_lists' hF' hN' (by walk_at "mem") (by walk_at "mem") ?_ (by walk_at "len") (by walk_at "len")); clear hF' hN'; intro _ _ _ _ l1; (try k_lt l1)); (try (revert l1; intro _))) | walk1 | (dsimp only; walk1) | (leave1; walk_say "STEP leave1"; try dsimp only))))
    (first | ((with_reducible show wpAny _ _ (subscriptTail _ _ (Value.ref _) (Value.int _ _)) _ _ _); k_dflt (refine' item_tupleT (by first | ((exact News.isTup (by k_asm) (by walk_at "mem")); done) | fail) (by decide) (by decide) (by rfl) (by rfl) ?_)) | ((with_reducible show wpAny _ _ (subscriptTail _ _ (Value.ref _) (Value.int _ _)) _ _ _); k_dflt (refine' item_list (by first | ((exact News.isList (by k_asm) (by walk_at "mem")); done) | fail) (by decide) (by decide) (by first | ((first | exact Mine.it0 _ _ | exact Mine.it1 _ _ _); done) | fail) ?_)) | ((with_reducible show wpAny _ _ (eval (Expr.Name _ _) (compEnvC _ _ _ _)) _ _ _); k_dflt (refine' lcf_free (by k_asm) (by rfl) (by first | ((k_mem); done) | fail) (by k_asm) ?_ (by rfl) (by rfl); k_whole)) | ((with_reducible show wpAny _ _ (subscriptTail _ _ (Value.ref _) (Value.int _ _)) _ _ _); k_dflt (refine' item_list (by first | ((exact News.isList (by k_asm) (by walk_at "mem")); done) | fail) (by decide) (by decide) (by first | ((first | exact Mine.it0 _ _ | exact Mine.it1 _ _ _); done) | fail) ?_)) | (((((k_here; (with_reducible show wpAny _ _ (subscriptTail _ (PySem.Expr.Slice _ _ none _) (Value.ref _) (Value.ref _)) _ _ _); k_dflt (refine' kmk_slice_ints (by k_asm) (by k_asm) (by first | ((kmk_list); done) | fail) (by first | ((kmk_part); done) | fail) (by first | ((kmk_part); done) | fail) (by first | ((l_ints); done) | fail) (by first | ((kmk_nums); done) | fail) (by first | ((kmk_len); done) | fail) ?_ (by with_unfolding_all rfl) (by first | ((kmk_pure); done) | fail) (by first | ((kmk_size); done) | fail)); intro _ _ _ _ _ l1 hI' hC' hL'; (try simp only [Int.reduceNeg, Int.neg_neg, Int.reduceToNat] at hI' hC' hL'); (try k_lt l1)); (try (revert l1; intro _))); (try (revert hI'; intro _))); (try (revert hC'; intro _))); (try (revert hL'; intro _))) | (k_here; (with_reducible show wpAny _ _ (call (Value.builtin "sum") [Value.ref _]) _ _ _); (with_unfolding_all refine' sumK (by with_unfolding_all rfl) (by k_asm) (by k_asm) (by first | ((is_list); done) | fail) (by assumption) ?_; k_whole); intro _ _ _ _ _; (try simp only [List.sum_cons, List.sum_nil])) | (k_here; k_dflt (refine' callWith_K (by k_asm) (by first | ((k_is); done) | fail) ?_; k_whole)) | ((with_reducible show wpAny _ _ (call (Value.type "range") [Value.int _ _]) _ _ _); k_dflt (refine' Mine.range1_own (by k_asm) (by k_asm) ?_); intro _ _ _ _ _ _ _ _ _) | ((with_reducible show wpAny _ _ (call (Value.builtin "len") [Value.ref _]) _ _ _); k_dflt (refine' len_list (by first | ((exact News.isList (by k_asm) (by walk_at "mem")); done) | fail) (by first | ((walk_at "len"); done) | fail) ?_); (try simp only [List.size_toArray])) | (((with_reducible show wpAny _ _ (binaryOp _ (Value.ref _) (Value.ref _)) _ _ _); (rename Fr _ _ _ _ => hF'); (rename News _ _ _ _ => hN'); (refine Mine.add_lists' hF' hN' (by walk_at "mem") (by walk_at "mem") ?_ (by walk_at "len") (by walk_at "len")); clear hF' hN'; intro _ _ _ _ l1; (try k_lt l1)); (try (revert l1; intro _))) | walk_at "go1")
    rename Fr base L _ _ => F8
    rename News base L _ _ => N8
    rename (I < _ ∧ _) => l8
    exact ⟨_, _, _, _, _, rfl, rfl, F8, N8, Nat.ne_of_gt l8.2.1, Nat.ne_of_gt l8.2.2.1, hwr.append' hwr2⟩
  case htest =>
    intro i C oC mC h5 tk5 E' t5 z tz hi hC hmx hmy hz F5 N5
    clear F N
    (repeat' (
  (fail_if_success (with_reducible show wpAny _ _ (call (Value.ref _) _ _) _ _ _));
  (fail_if_success (with_reducible show wpAny _ _ (eval (Expr.ListComp _ _ _ _) _) _ _ _));
  (fail_if_success (with_reducible show LCg.CompSrc _ _ _ _ _ _ _ _ _ _ _ _ _ _));
  (fail_if_success (with_reducible show wpAny _ _ (compareOp _ (Value.ref _) (Value.ref _)) _ _ _));
  (fail_if_success (with_reducible show wpAny _ _ (call (Value.builtin "sorted") _ _) _ _ _));
  (fail_if_success (with_reducible show wpAny _ _ (binaryOp _ (Value.ref _) (Value.ref _)) _ _ _));
  (fail_if_success (with_reducible show wpAny _ _ (exec (Stmt.Assign _ (Expr.ListComp _ _ _ _) _) _) _ _ _));
  (first | (k_unfold; (try dsimp only)) | (k_end; wrow_close) | ((with_reducible show wpAny _ _ (subscriptTail _ _ (Value.ref _) (Value.int _ _)) _ _ _); k_dflt (refine' item_tupleT (by first | ((exact News.isTup (by k_asm) (by walk_at "mem")); done) | fail) (by decide) (by decide) (by rfl) (by rfl) ?_)) | ((with_reducible show wpAny _ _ (subscriptTail _ _ (Value.ref _) (Value.int _ _)) _ _ _); k_dflt (refine' item_list (by first | ((exact News.isList (by k_asm) (by walk_at "mem")); done) | fail) (by decide) (by decide) (by first | ((first | exact Mine.it0 _ _ | exact Mine.it1 _ _ _); done) | fail) ?_)) | ((with_reducible show wpAny _ _ (eval (Expr.Name _ _) (compEnvC _ _ _ _)) _ _ _); k_dflt (refine' lcf_free (by k_asm) (by rfl) (by first | ((k_mem); done) | fail) (by k_asm) ?_ (by rfl) (by rfl); k_whole)) | ((with_reducible show wpAny _ _ (subscriptTail _ _ (Value.ref _) (Value.int _ _)) _ _ _); k_dflt (refine' item_list (by first | ((exact News.isList (by k_asm) (by walk_at "mem")); done) | fail) (by decide) (by decide) (by first | ((first | exact Mine.it0 _ _ | exact Mine.it1 _ _ _); done) | fail) ?_)) | (((((k_here; (with_reducible show wpAny _ _ (subscriptTail _ (PySem.Expr.Slice _ _ none _) (Value.ref _) (Value.ref _)) _ _ _); k_dflt (refine' kmk_slice_ints (by k_asm) (by k_asm) (by first | ((kmk_list); done) | fail) (by first | ((kmk_part); done) | fail) (by first | ((kmk_part); done) | fail) (by first | ((l_ints); done) | fail) (by first | ((kmk_nums); done) | fail) (by first | ((kmk_len); done) | fail) ?_ (by with_unfolding_all rfl) (by first | ((kmk_pure); done) | fail) (by first | ((kmk_size); done) | fail)); intro _ _ _ _ _ l1 hI' hC' hL'; (try simp only [Int.reduceNeg, Int.neg_neg, Int.reduceToNat] at hI' hC' hL'); (try k_lt l1)); (try (revert l1; intro _))); (try (revert hI'; intro _))); (try (revert hC'; intro _))); (try (revert hL'; intro _))) | (k_here; (with_reducible show wpAny _ _ (call (Value.builtin "sum") [Value.ref _]) _ _ _); (with_unfolding_all refine' sumK (by with_unfolding_all rfl) (by k_asm) (by k_asm) (by first | ((is_list); done) | fail) (by assumption) ?_; k_whole); intro _ _ _ _ _; (try simp only [List.sum_cons, List.sum_nil])) | (k_here; k_dflt (refine' callWith_K (by k_asm) (by first | ((k_is); done) | fail) ?_; k_whole)) | ((with_reducible show wpAny _ _ (call (Value.type "range") [Value.int _ _]) _ _ _); k_dflt (refine' Mine.range1_own (by k_asm) (by k_asm) ?_); intro _ _ _ _ _ _ _ _ _) | ((with_reducible show wpAny _ _ (call (Value.builtin "len") [Value.ref _]) _ _ _); k_dflt (refine' len_list (by first | ((exact News.isList (by k_asm) (by walk_at "mem")); done) | fail) (by first | ((walk_at "len"); done) | fail) ?_); (try simp only [List.size_toArray])) | (((with_reducible show wpAny _ _ (binaryOp _ (Value.ref _) (Value.ref _)) _ _ _); (rename Fr _ _ _ _ => hF'); (rename News _ _ _ _ => hN'); (refine Mine.add_lists' hF' hN' (by walk_at "mem") (by walk_at "mem") ?_ (by walk_at "len") (by walk_at "len")); clear hF' hN'; intro _ _ _ _ l1; (try k_lt l1)); (try (revert l1; intro _))) | walk1 | (dsimp only; walk1) | (leave1; walk_say "STEP leave1"; try dsimp only))))
  case helt =>
    intro C oC mC h5 tk5 E' z tz hC hmy F5 N5
    clear F N
    (repeat' (
  (fail_if_success (with_reducible show wpAny _ _ (call (Value.ref _) _ _) _ _ _));
  (fail_if_success (with_reducible show wpAny _ _ (eval (Expr.ListComp _ _ _ _) _) _ _ _));
  (fail_if_success (with_reducible show LCg.CompSrc _ _ _ _ _ _ _ _ _ _ _ _ _ _));
  (fail_if_success (with_reducible show wpAny _ _ (compareOp _ (Value.ref _) (Value.ref _)) _ _ _));
  (fail_if_success (with_reducible show wpAny _ _ (call (Value.builtin "sorted") _ _) _ _ _));
  (fail_if_success (with_reducible show wpAny _ _ (binaryOp _ (Value.ref _) (Value.ref _)) _ _ _));
  (fail_if_success (with_reducible show wpAny _ _ (exec (Stmt.Assign _ (Expr.ListComp _ _ _ _) _) _) _ _ _));
  (first | (k_unfold; (try dsimp only)) | (k_end; wrow_close) | ((with_reducible show wpAny _ _ (subscriptTail _ _ (Value.ref _) (Value.int _ _)) _ _ _); k_dflt (refine' item_tupleT (by first | ((exact News.isTup (by k_asm) (by walk_at "mem")); done) | fail) (by decide) (by decide) (by rfl) (by rfl) ?_)) | ((with_reducible show wpAny _ _ (subscriptTail _ _ (Value.ref _) (Value.int _ _)) _ _ _); k_dflt (refine' item_list (by first | ((exact News.isList (by k_asm) (by walk_at "mem")); done) | fail) (by decide) (by decide) (by first | ((first | exact Mine.it0 _ _ | exact Mine.it1 _ _ _); done) | fail) ?_)) | ((with_reducible show wpAny _ _ (eval (Expr.Name _ _) (compEnvC _ _ _ _)) _ _ _); k_dflt (refine' lcf_free (by k_asm) (by rfl) (by first | ((k_mem); done) | fail) (by k_asm) ?_ (by rfl) (by rfl); k_whole)) | ((with_reducible show wpAny _ _ (subscriptTail _ _ (Value.ref _) (Value.int _ _)) _ _ _); k_dflt (refine' item_list (by first | ((exact News.isList (by k_asm) (by walk_at "mem")); done) | fail) (by decide) (by decide) (by first | ((first | exact Mine.it0 _ _ | exact Mine.it1 _ _ _); done) | fail) ?_)) | (((((k_here; (with_reducible show wpAny _ _ (subscriptTail _ (PySem.Expr.Slice _ _ none _) (Value.ref _) (Value.ref _)) _ _ _); k_dflt (refine' kmk_slice_ints (by k_asm) (by k_asm) (by first | ((kmk_list); done) | fail) (by first | ((kmk_part); done) | fail) (by first | ((kmk_part); done) | fail) (by first | ((l_ints); done) | fail) (by first | ((kmk_nums); done) | fail) (by first | ((kmk_len); done) | fail) ?_ (by with_unfolding_all rfl) (by first | ((kmk_pure); done) | fail) (by first | ((kmk_size); done) | fail)); intro _ _ _ _ _ l1 hI' hC' hL'; (try simp only [Int.reduceNeg, Int.neg_neg, Int.reduceToNat] at hI' hC' hL'); (try k_lt l1)); (try (revert l1; intro _))); (try (revert hI'; intro _))); (try (revert hC'; intro _))); (try (revert hL'; intro _))) | (k_here; (with_reducible show wpAny _ _ (call (Value.builtin "sum") [Value.ref _]) _ _ _); (with_unfolding_all refine' sumK (by with_unfolding_all rfl) (by k_asm) (by k_asm) (by first | ((is_list); done) | fail) (by assumption) ?_; k_whole); intro _ _ _ _ _; (try simp only [List.sum_cons, List.sum_nil])) | (k_here; k_dflt (refine' callWith_K (by k_asm) (by first | ((k_is); done) | fail) ?_; k_whole)) | ((with_reducible show wpAny _ _ (call (Value.type "range") [Value.int _ _]) _ _ _); k_dflt (refine' Mine.range1_own (by k_asm) (by k_asm) ?_); intro _ _ _ _ _ _ _ _ _) | ((with_reducible show wpAny _ _ (call (Value.builtin "len") [Value.ref _]) _ _ _); k_dflt (refine' len_list (by first | ((exact News.isList (by k_asm) (by walk_at "mem")); done) | fail) (by first | ((walk_at "len"); done) | fail) ?_); (try simp only [List.size_toArray])) | (((with_reducible show wpAny _ _ (binaryOp _ (Value.ref _) (Value.ref _)) _ _ _); (rename Fr _ _ _ _ => hF'); (rename News _ _ _ _ => hN'); (refine Mine.add_lists' hF' hN' (by walk_at "mem") (by walk_at "mem") ?_ (by walk_at "len") (by walk_at "len")); clear hF' hN'; intro _ _ _ _ l1; (try k_lt l1)); (try (revert l1; intro _))) | walk1 | (dsimp only; walk1) | (leave1; walk_say "STEP leave1"; try dsimp only))))
  case fin =>
    intro D h5 tk5 ys F5 N5 hys
    rw [byLen_eq] at hys
    have hby : OkS (byLen (one ++ two)) := fun z hz => by
      unfold byLen at hz
      obtain ⟨k, _, hz⟩ := List.mem_flatMap.mp hz
      rcases List.mem_append.mp (List.mem_filter.mp hz).1 with h9 | h9
      · exact ok1 z h9
      · exact ok2 z h9
    refine ne_fit (rd_strs (N5 _ (by walk_at "mem" : (DO, _) ∈ _)).1 hvo) (rd_strs (n := ys.length) (N5 _ (.head _)).1 hys) (FitAll.list (fit_strs (k := 0) hby)) (by decide) (by ktr_units) ?_
    clear F N hby hys hvo
    (repeat' (
  (fail_if_success (with_reducible show wpAny _ _ (call (Value.ref _) _ _) _ _ _));
  (fail_if_success (with_reducible show wpAny _ _ (eval (Expr.ListComp _ _ _ _) _) _ _ _));
  (fail_if_success (with_reducible show LCg.CompSrc _ _ _ _ _ _ _ _ _ _ _ _ _ _));
  (fail_if_success (with_reducible show wpAny _ _ (compareOp _ (Value.ref _) (Value.ref _)) _ _ _));
  (fail_if_success (with_reducible show wpAny _ _ (call (Value.builtin "sorted") _ _) _ _ _));
  (fail_if_success (with_reducible show wpAny _ _ (binaryOp _ (Value.ref _) (Value.ref _)) _ _ _));
  (fail_if_success (with_reducible show wpAny _ _ (exec (Stmt.Assign _ (Expr.ListComp _ _ _ _) _) _) _ _ _));
  (first | (k_unfold; (try dsimp only)) | (k_end; wrow_close) | ((with_reducible show wpAny _ _ (subscriptTail _ _ (Value.ref _) (Value.int _ _)) _ _ _); k_dflt (refine' item_tupleT (by first | ((exact News.isTup (by k_asm) (by walk_at "mem")); done) | fail) (by decide) (by decide) (by rfl) (by rfl) ?_)) | ((with_reducible show wpAny _ _ (subscriptTail _ _ (Value.ref _) (Value.int _ _)) _ _ _); k_dflt (refine' item_list (by first | ((exact News.isList (by k_asm) (by walk_at "mem")); done) | fail) (by decide) (by decide) (by first | ((first | exact Mine.it0 _ _ | exact Mine.it1 _ _ _); done) | fail) ?_)) | ((with_reducible show wpAny _ _ (eval (Expr.Name _ _) (compEnvC _ _ _ _)) _ _ _); k_dflt (refine' lcf_free (by k_asm) (by rfl) (by first | ((k_mem); done) | fail) (by k_asm) ?_ (by rfl) (by rfl); k_whole)) | ((with_reducible show wpAny _ _ (subscriptTail _ _ (Value.ref _) (Value.int _ _)) _ _ _); k_dflt (refine' item_list (by first | ((exact News.isList (by k_asm) (by walk_at "mem")); done) | fail) (by decide) (by decide) (by first | ((first | exact Mine.it0 _ _ | exact Mine.it1 _ _ _); done) | fail) ?_)) | (((((k_here; (with_reducible show wpAny _ _ (subscriptTail _ (PySem.Expr.Slice _ _ none _) (Value.ref _) (Value.ref _)) _ _ _); k_dflt (refine' kmk_slice_ints (by k_asm) (by k_asm) (by first | ((kmk_list); done) | fail) (by first | ((kmk_part); done) | fail) (by first | ((kmk_part); done) | fail) (by first | ((l_ints); done) | fail) (by first | ((kmk_nums); done) | fail) (by first | ((kmk_len); done) | fail) ?_ (by with_unfolding_all rfl) (by first | ((kmk_pure); done) | fail) (by first | ((kmk_size); done) | fail)); intro _ _ _ _ _ l1 hI' hC' hL'; (try simp only [Int.reduceNeg, Int.neg_neg, Int.reduceToNat] at hI' hC' hL'); (try k_lt l1)); (try (revert l1; intro _))); (try (revert hI'; intro _))); (try (revert hC'; intro _))); (try (revert hL'; intro _))) | (k_here; (with_reducible show wpAny _ _ (call (Value.builtin "sum") [Value.ref _]) _ _ _); (with_unfolding_all refine' sumK (by with_unfolding_all rfl) (by k_asm) (by k_asm) (by first | ((is_list); done) | fail) (by assumption) ?_; k_whole); intro _ _ _ _ _; (try simp only [List.sum_cons, List.sum_nil])) | (k_here; k_dflt (refine' callWith_K (by k_asm) (by first | ((k_is); done) | fail) ?_; k_whole)) | ((with_reducible show wpAny _ _ (call (Value.type "range") [Value.int _ _]) _ _ _); k_dflt (refine' Mine.range1_own (by k_asm) (by k_asm) ?_); intro _ _ _ _ _ _ _ _ _) | ((with_reducible show wpAny _ _ (call (Value.builtin "len") [Value.ref _]) _ _ _); k_dflt (refine' len_list (by first | ((exact News.isList (by k_asm) (by walk_at "mem")); done) | fail) (by first | ((walk_at "len"); done) | fail) ?_); (try simp only [List.size_toArray])) | (((with_reducible show wpAny _ _ (binaryOp _ (Value.ref _) (Value.ref _)) _ _ _); (rename Fr _ _ _ _ => hF'); (rename News _ _ _ _ => hN'); (refine Mine.add_lists' hF' hN' (by walk_at "mem") (by walk_at "mem") ?_ (by walk_at "len") (by walk_at "len")); clear hF' hN'; intro _ _ _ _ l1; (try k_lt l1)); (try (revert l1; intro _))) | walk1 | (dsimp only; walk1) | (leave1; walk_say "STEP leave1"; try dsimp only))))
    replace N5 := news_sub N5 (by walk_at "sub" : ∀ p ∈ [(lr2, listOf wr2.toArray nr2), (lr, listOf wr.toArray nr), (L + 1 + 1 + 1 + 1, o4), (L + 1 + 1 + 1, o3), (30, tabObj pa), (79, tabObj pb), (117, tabObj pc)], p ∈ _)
    refine sorted_own F5 N5 (News.isList N5 (by walk_at "mem" : (lr, _) ∈ _)) hwr (by walk_at "o") ?_
    intro DA va sa eA hA FA NA lA sAs pA oA
    clear F5 N5
    (repeat' (
  (fail_if_success (with_reducible show wpAny _ _ (call (Value.ref _) _ _) _ _ _));
  (fail_if_success (with_reducible show wpAny _ _ (eval (Expr.ListComp _ _ _ _) _) _ _ _));
  (fail_if_success (with_reducible show LCg.CompSrc _ _ _ _ _ _ _ _ _ _ _ _ _ _));
  (fail_if_success (with_reducible show wpAny _ _ (compareOp _ (Value.ref _) (Value.ref _)) _ _ _));
  (fail_if_success (with_reducible show wpAny _ _ (call (Value.builtin "sorted") _ _) _ _ _));
  (fail_if_success (with_reducible show wpAny _ _ (binaryOp _ (Value.ref _) (Value.ref _)) _ _ _));
  (fail_if_success (with_reducible show wpAny _ _ (exec (Stmt.Assign _ (Expr.ListComp _ _ _ _) _) _) _ _ _));
  (first | (k_unfold; (try dsimp only)) | (k_end; wrow_close) | ((with_reducible show wpAny _ _ (subscriptTail _ _ (Value.ref _) (Value.int _ _)) _ _ _); k_dflt (refine' item_tupleT (by first | ((exact News.isTup (by k_asm) (by walk_at "mem")); done) | fail) (by decide) (by decide) (by rfl) (by rfl) ?_)) | ((with_reducible show wpAny _ _ (subscriptTail _ _ (Value.ref _) (Value.int _ _)) _ _ _); k_dflt (refine' item_list (by first | ((exact News.isList (by k_asm) (by walk_at "mem")); done) | fail) (by decide) (by decide) (by first | ((first | exact Mine.it0 _ _ | exact Mine.it1 _ _ _); done) | fail) ?_)) | ((with_reducible show wpAny _ _ (eval (Expr.Name _ _) (compEnvC _ _ _ _)) _ _ _); k_dflt (refine' lcf_free (by k_asm) (by rfl) (by first | ((k_mem); done) | fail) (by k_asm) ?_ (by rfl) (by rfl); k_whole)) | ((with_reducible show wpAny _ _ (subscriptTail _ _ (Value.ref _) (Value.int _ _)) _ _ _); k_dflt (refine' item_list (by first | ((exact News.isList (by k_asm) (by walk_at "mem")); done) | fail) (by decide) (by decide) (by first | ((first | exact Mine.it0 _ _ | exact Mine.it1 _ _ _); done) | fail) ?_)) | (((((k_here; (with_reducible show wpAny _ _ (subscriptTail _ (PySem.Expr.Slice _ _ none _) (Value.ref _) (Value.ref _)) _ _ _); k_dflt (refine' kmk_slice_ints (by k_asm) (by k_asm) (by first | ((kmk_list); done) | fail) (by first | ((kmk_part); done) | fail) (by first | ((kmk_part); done) | fail) (by first | ((l_ints); done) | fail) (by first | ((kmk_nums); done) | fail) (by first | ((kmk_len); done) | fail) ?_ (by with_unfolding_all rfl) (by first | ((kmk_pure); done) | fail) (by first | ((kmk_size); done) | fail)); intro _ _ _ _ _ l1 hI' hC' hL'; (try simp only [Int.reduceNeg, Int.neg_neg, Int.reduceToNat] at hI' hC' hL'); (try k_lt l1)); (try (revert l1; intro _))); (try (revert hI'; intro _))); (try (revert hC'; intro _))); (try (revert hL'; intro _))) | (k_here; (with_reducible show wpAny _ _ (call (Value.builtin "sum") [Value.ref _]) _ _ _); (with_unfolding_all refine' sumK (by with_unfolding_all rfl) (by k_asm) (by k_asm) (by first | ((is_list); done) | fail) (by assumption) ?_; k_whole); intro _ _ _ _ _; (try simp only [List.sum_cons, List.sum_nil])) | (k_here; k_dflt (refine' callWith_K (by k_asm) (by first | ((k_is); done) | fail) ?_; k_whole)) | ((with_reducible show wpAny _ _ (call (Value.type "range") [Value.int _ _]) _ _ _); k_dflt (refine' Mine.range1_own (by k_asm) (by k_asm) ?_); intro _ _ _ _ _ _ _ _ _) | ((with_reducible show wpAny _ _ (call (Value.builtin "len") [Value.ref _]) _ _ _); k_dflt (refine' len_list (by first | ((exact News.isList (by k_asm) (by walk_at "mem")); done) | fail) (by first | ((walk_at "len"); done) | fail) ?_); (try simp only [List.size_toArray])) | (((with_reducible show wpAny _ _ (binaryOp _ (Value.ref _) (Value.ref _)) _ _ _); (rename Fr _ _ _ _ => hF'); (rename News _ _ _ _ => hN'); (refine Mine.add_lists' hF' hN' (by walk_at "mem") (by walk_at "mem") ?_ (by walk_at "len") (by walk_at "len")); clear hF' hN'; intro _ _ _ _ l1; (try k_lt l1)); (try (revert l1; intro _))) | walk1 | (dsimp only; walk1) | (leave1; walk_say "STEP leave1"; try dsimp only))))
    rename Fr base L _ _ => F5
    rename News base L _ _ => N5
    refine sorted_own F5 N5 (News.isList N5 (by walk_at "mem" : (lr2, _) ∈ _)) hwr2 (by walk_at "o") ?_
    intro DB vb sb eB hB FB NB lB sBs pB oB
    clear F5 N5
    (repeat' (
  (fail_if_success (with_reducible show wpAny _ _ (call (Value.ref _) _ _) _ _ _));
  (fail_if_success (with_reducible show wpAny _ _ (eval (Expr.ListComp _ _ _ _) _) _ _ _));
  (fail_if_success (with_reducible show LCg.CompSrc _ _ _ _ _ _ _ _ _ _ _ _ _ _));
  (fail_if_success (with_reducible show wpAny _ _ (compareOp _ (Value.ref _) (Value.ref _)) _ _ _));
  (fail_if_success (with_reducible show wpAny _ _ (call (Value.builtin "sorted") _ _) _ _ _));
  (fail_if_success (with_reducible show wpAny _ _ (binaryOp _ (Value.ref _) (Value.ref _)) _ _ _));
  (fail_if_success (with_reducible show wpAny _ _ (exec (Stmt.Assign _ (Expr.ListComp _ _ _ _) _) _) _ _ _));
  (first | (k_unfold; (try dsimp only)) | (k_end; wrow_close) | ((with_reducible show wpAny _ _ (subscriptTail _ _ (Value.ref _) (Value.int _ _)) _ _ _); k_dflt (refine' item_tupleT (by first | ((exact News.isTup (by k_asm) (by walk_at "mem")); done) | fail) (by decide) (by decide) (by rfl) (by rfl) ?_)) | ((with_reducible show wpAny _ _ (subscriptTail _ _ (Value.ref _) (Value.int _ _)) _ _ _); k_dflt (refine' item_list (by first | ((exact News.isList (by k_asm) (by walk_at "mem")); done) | fail) (by decide) (by decide) (by first | ((first | exact Mine.it0 _ _ | exact Mine.it1 _ _ _); done) | fail) ?_)) | ((with_reducible show wpAny _ _ (eval (Expr.Name _ _) (compEnvC _ _ _ _)) _ _ _); k_dflt (refine' lcf_free (by k_asm) (by rfl) (by first | ((k_mem); done) | fail) (by k_asm) ?_ (by rfl) (by rfl); k_whole)) | ((with_reducible show wpAny _ _ (subscriptTail _ _ (Value.ref _) (Value.int _ _)) _ _ _); k_dflt (refine' item_list (by first | ((exact News.isList (by k_asm) (by walk_at "mem")); done) | fail) (by decide) (by decide) (by first | ((first | exact Mine.it0 _ _ | exact Mine.it1 _ _ _); done) | fail) ?_)) | (((((k_here; (with_reducible show wpAny _ _ (subscriptTail _ (PySem.Expr.Slice _ _ none _) (Value.ref _) (Value.ref _)) _ _ _); k_dflt (refine' kmk_slice_ints (by k_asm) (by k_asm) (by first | ((kmk_list); done) | fail) (by first | ((kmk_part); done) | fail) (by first | ((kmk_part); done) | fail) (by first | ((l_ints); done) | fail) (by first | ((kmk_nums); done) | fail) (by first | ((kmk_len); done) | fail) ?_ (by with_unfolding_all rfl) (by first | ((kmk_pure); done) | fail) (by first | ((kmk_size); done) | fail)); intro _ _ _ _ _ l1 hI' hC' hL'; (try simp only [Int.reduceNeg, Int.neg_neg, Int.reduceToNat] at hI' hC' hL'); (try k_lt l1)); (try (revert l1; intro _))); (try (revert hI'; intro _))); (try (revert hC'; intro _))); (try (revert hL'; intro _))) | (k_here; (with_reducible show wpAny _ _ (call (Value.builtin "sum") [Value.ref _]) _ _ _); (with_unfolding_all refine' sumK (by with_unfolding_all rfl) (by k_asm) (by k_asm) (by first | ((is_list); done) | fail) (by assumption) ?_; k_whole); intro _ _ _ _ _; (try simp only [List.sum_cons, List.sum_nil])) | (k_here; k_dflt (refine' callWith_K (by k_asm) (by first | ((k_is); done) | fail) ?_; k_whole)) | ((with_reducible show wpAny _ _ (call (Value.type "range") [Value.int _ _]) _ _ _); k_dflt (refine' Mine.range1_own (by k_asm) (by k_asm) ?_); intro _ _ _ _ _ _ _ _ _) | ((with_reducible show wpAny _ _ (call (Value.builtin "len") [Value.ref _]) _ _ _); k_dflt (refine' len_list (by first | ((exact News.isList (by k_asm) (by walk_at "mem")); done) | fail) (by first | ((walk_at "len"); done) | fail) ?_); (try simp only [List.size_toArray])) | (((with_reducible show wpAny _ _ (binaryOp _ (Value.ref _) (Value.ref _)) _ _ _); (rename Fr _ _ _ _ => hF'); (rename News _ _ _ _ => hN'); (refine Mine.add_lists' hF' hN' (by walk_at "mem") (by walk_at "mem") ?_ (by walk_at "len") (by walk_at "len")); clear hF' hN'; intro _ _ _ _ l1; (try k_lt l1)); (try (revert l1; intro _))) | walk1 | (dsimp only; walk1) | (leave1; walk_say "STEP leave1"; try dsimp only))))
    rename Fr base L _ _ => F5
    rename News base L _ _ => N5
    have hla := pA.length_eq
    have hlb := pB.length_eq
    refine c_sorted _ _ _ _ _ _ _ _ callerA base base L _ [(lr2, listOf wr2.toArray nr2), (lr, listOf wr.toArray nr), (L + 1 + 1 + 1 + 1, o4), (L + 1 + 1 + 1, o3), (30, tabObj pa), (79, tabObj pb), (117, tabObj pc)] _ _ _ B1 F5 KX T1 KX T1 rfl (by decide) (by decide) DA DB va vb eA eB sa sb (news_sub N5 (by walk_at "sub")) sAs sBs (by walk_at "o") (by walk_at "o") ?_
    intro DT1 lm lu wm wu n1 n2 h7 tk7 F9 N9 hm1 hm2
    clear F5 N5
    replace N9 := news_sub N9 (by walk_at "sub" : ∀ p ∈ (DT1, tupOf [.ref lm, .ref lu]) :: (lm, listOf (List.toArray wm) n1) :: (lu, listOf (List.toArray wu) n2) :: [(lr2, listOf wr2.toArray nr2), (lr, listOf wr.toArray nr), (L + 1 + 1 + 1 + 1, o4), (L + 1 + 1 + 1, o3), (30, tabObj pa), (79, tabObj pb), (117, tabObj pc)], p ∈ _)
    (repeat' (
  (fail_if_success (with_reducible show wpAny _ _ (call (Value.ref _) _ _) _ _ _));
  (fail_if_success (with_reducible show wpAny _ _ (eval (Expr.ListComp _ _ _ _) _) _ _ _));
  (fail_if_success (with_reducible show LCg.CompSrc _ _ _ _ _ _ _ _ _ _ _ _ _ _));
  (fail_if_success (with_reducible show wpAny _ _ (compareOp _ (Value.ref _) (Value.ref _)) _ _ _));
  (fail_if_success (with_reducible show wpAny _ _ (call (Value.builtin "sorted") _ _) _ _ _));
  (fail_if_success (with_reducible show wpAny _ _ (binaryOp _ (Value.ref _) (Value.ref _)) _ _ _));
  (fail_if_success (with_reducible show wpAny _ _ (exec (Stmt.Assign _ (Expr.ListComp _ _ _ _) _) _) _ _ _));
  (first | (k_unfold; (try dsimp only)) | (k_end; wrow_close) | ((with_reducible show wpAny _ _ (subscriptTail _ _ (Value.ref _) (Value.int _ _)) _ _ _); k_dflt (refine' item_tupleT (by first | ((exact News.isTup (by k_asm) (by walk_at "mem")); done) | fail) (by decide) (by decide) (by rfl) (by rfl) ?_)) | ((with_reducible show wpAny _ _ (subscriptTail _ _ (Value.ref _) (Value.int _ _)) _ _ _); k_dflt (refine' item_list (by first | ((exact News.isList (by k_asm) (by walk_at "mem")); done) | fail) (by decide) (by decide) (by first | ((first | exact Mine.it0 _ _ | exact Mine.it1 _ _ _); done) | fail) ?_)) | ((with_reducible show wpAny _ _ (eval (Expr.Name _ _) (compEnvC _ _ _ _)) _ _ _); k_dflt (refine' lcf_free (by k_asm) (by rfl) (by first | ((k_mem); done) | fail) (by k_asm) ?_ (by rfl) (by rfl); k_whole)) | ((with_reducible show wpAny _ _ (subscriptTail _ _ (Value.ref _) (Value.int _ _)) _ _ _); k_dflt (refine' item_list (by first | ((exact News.isList (by k_asm) (by walk_at "mem")); done) | fail) (by decide) (by decide) (by first | ((first | exact Mine.it0 _ _ | exact Mine.it1 _ _ _); done) | fail) ?_)) | (((((k_here; (with_reducible show wpAny _ _ (subscriptTail _ (PySem.Expr.Slice _ _ none _) (Value.ref _) (Value.ref _)) _ _ _); k_dflt (refine' kmk_slice_ints (by k_asm) (by k_asm) (by first | ((kmk_list); done) | fail) (by first | ((kmk_part); done) | fail) (by first | ((kmk_part); done) | fail) (by first | ((l_ints); done) | fail) (by first | ((kmk_nums); done) | fail) (by first | ((kmk_len); done) | fail) ?_ (by with_unfolding_all rfl) (by first | ((kmk_pure); done) | fail) (by first | ((kmk_size); done) | fail)); intro _ _ _ _ _ l1 hI' hC' hL'; (try simp only [Int.reduceNeg, Int.neg_neg, Int.reduceToNat] at hI' hC' hL'); (try k_lt l1)); (try (revert l1; intro _))); (try (revert hI'; intro _))); (try (revert hC'; intro _))); (try (revert hL'; intro _))) | (k_here; (with_reducible show wpAny _ _ (call (Value.builtin "sum") [Value.ref _]) _ _ _); (with_unfolding_all refine' sumK (by with_unfolding_all rfl) (by k_asm) (by k_asm) (by first | ((is_list); done) | fail) (by assumption) ?_; k_whole); intro _ _ _ _ _; (try simp only [List.sum_cons, List.sum_nil])) | (k_here; k_dflt (refine' callWith_K (by k_asm) (by first | ((k_is); done) | fail) ?_; k_whole)) | ((with_reducible show wpAny _ _ (call (Value.type "range") [Value.int _ _]) _ _ _); k_dflt (refine' Mine.range1_own (by k_asm) (by k_asm) ?_); intro _ _ _ _ _ _ _ _ _) | ((with_reducible show wpAny _ _ (call (Value.builtin "len") [Value.ref _]) _ _ _); k_dflt (refine' len_list (by first | ((exact News.isList (by k_asm) (by walk_at "mem")); done) | fail) (by first | ((walk_at "len"); done) | fail) ?_); (try simp only [List.size_toArray])) | (((with_reducible show wpAny _ _ (binaryOp _ (Value.ref _) (Value.ref _)) _ _ _); (rename Fr _ _ _ _ => hF'); (rename News _ _ _ _ => hN'); (refine Mine.add_lists' hF' hN' (by walk_at "mem") (by walk_at "mem") ?_ (by walk_at "len") (by walk_at "len")); clear hF' hN'; intro _ _ _ _ l1; (try k_lt l1)); (try (revert l1; intro _))) | walk1 | (dsimp only; walk1) | (leave1; walk_say "STEP leave1"; try dsimp only))))
    rename_i DC cC hC9 lC DD cD hD9 F8 N8 lD
    refine c_unord _ _ _ _ _ _ _ _ callerA base base L _ ((DT1, tupOf [.ref lm, .ref lu]) :: (lm, listOf (List.toArray wm) n1) :: (lu, listOf (List.toArray wu) n2) :: [(lr2, listOf wr2.toArray nr2), (lr, listOf wr.toArray nr), (L + 1 + 1 + 1 + 1, o4), (L + 1 + 1 + 1, o3), (30, tabObj pa), (79, tabObj pb), (117, tabObj pc)]) _ _ _ B1 F8 KX T1 KX T1 rfl (by decide) (by decide) DC DD wr wr2 cC cD one two (news_sub N8 (by walk_at "sub")) (Nat.ne_of_gt lD.1) (by k_all) (by k_all) hwr hwr2 (by walk_at "o") (by walk_at "o") ?_
    intro DT2 lM wm2 wa2 k1 k2 we2 k3 h8 tk8 F10 N10 hM hL
    clear F8 N8
    (repeat' (
  (fail_if_success (with_reducible show wpAny _ _ (call (Value.ref _) _ _) _ _ _));
  (fail_if_success (with_reducible show wpAny _ _ (eval (Expr.ListComp _ _ _ _) _) _ _ _));
  (fail_if_success (with_reducible show LCg.CompSrc _ _ _ _ _ _ _ _ _ _ _ _ _ _));
  (fail_if_success (with_reducible show wpAny _ _ (compareOp _ (Value.ref _) (Value.ref _)) _ _ _));
  (fail_if_success (with_reducible show wpAny _ _ (call (Value.builtin "sorted") _ _) _ _ _));
  (fail_if_success (with_reducible show wpAny _ _ (binaryOp _ (Value.ref _) (Value.ref _)) _ _ _));
  (fail_if_success (with_reducible show wpAny _ _ (exec (Stmt.Assign _ (Expr.ListComp _ _ _ _) _) _) _ _ _));
  (first | (k_unfold; (try dsimp only)) | (k_end; wrow_close) | ((with_reducible show wpAny _ _ (subscriptTail _ _ (Value.ref _) (Value.int _ _)) _ _ _); k_dflt (refine' item_tupleT (by first | ((exact News.isTup (by k_asm) (by walk_at "mem")); done) | fail) (by decide) (by decide) (by rfl) (by rfl) ?_)) | ((with_reducible show wpAny _ _ (subscriptTail _ _ (Value.ref _) (Value.int _ _)) _ _ _); k_dflt (refine' item_list (by first | ((exact News.isList (by k_asm) (by walk_at "mem")); done) | fail) (by decide) (by decide) (by first | ((first | exact Mine.it0 _ _ | exact Mine.it1 _ _ _); done) | fail) ?_)) | ((with_reducible show wpAny _ _ (eval (Expr.Name _ _) (compEnvC _ _ _ _)) _ _ _); k_dflt (refine' lcf_free (by k_asm) (by rfl) (by first | ((k_mem); done) | fail) (by k_asm) ?_ (by rfl) (by rfl); k_whole)) | ((with_reducible show wpAny _ _ (subscriptTail _ _ (Value.ref _) (Value.int _ _)) _ _ _); k_dflt (refine' item_list (by first | ((exact News.isList (by k_asm) (by walk_at "mem")); done) | fail) (by decide) (by decide) (by first | ((first | exact Mine.it0 _ _ | exact Mine.it1 _ _ _); done) | fail) ?_)) | (((((k_here; (with_reducible show wpAny _ _ (subscriptTail _ (PySem.Expr.Slice _ _ none _) (Value.ref _) (Value.ref _)) _ _ _); k_dflt (refine' kmk_slice_ints (by k_asm) (by k_asm) (by first | ((kmk_list); done) | fail) (by first | ((kmk_part); done) | fail) (by first | ((kmk_part); done) | fail) (by first | ((l_ints); done) | fail) (by first | ((kmk_nums); done) | fail) (by first | ((kmk_len); done) | fail) ?_ (by with_unfolding_all rfl) (by first | ((kmk_pure); done) | fail) (by first | ((kmk_size); done) | fail)); intro _ _ _ _ _ l1 hI' hC' hL'; (try simp only [Int.reduceNeg, Int.neg_neg, Int.reduceToNat] at hI' hC' hL'); (try k_lt l1)); (try (revert l1; intro _))); (try (revert hI'; intro _))); (try (revert hC'; intro _))); (try (revert hL'; intro _))) | (k_here; (with_reducible show wpAny _ _ (call (Value.builtin "sum") [Value.ref _]) _ _ _); (with_unfolding_all refine' sumK (by with_unfolding_all rfl) (by k_asm) (by k_asm) (by first | ((is_list); done) | fail) (by assumption) ?_; k_whole); intro _ _ _ _ _; (try simp only [List.sum_cons, List.sum_nil])) | (k_here; k_dflt (refine' callWith_K (by k_asm) (by first | ((k_is); done) | fail) ?_; k_whole)) | ((with_reducible show wpAny _ _ (call (Value.type "range") [Value.int _ _]) _ _ _); k_dflt (refine' Mine.range1_own (by k_asm) (by k_asm) ?_); intro _ _ _ _ _ _ _ _ _) | ((with_reducible show wpAny _ _ (call (Value.builtin "len") [Value.ref _]) _ _ _); k_dflt (refine' len_list (by first | ((exact News.isList (by k_asm) (by walk_at "mem")); done) | fail) (by first | ((walk_at "len"); done) | fail) ?_); (try simp only [List.size_toArray])) | (((with_reducible show wpAny _ _ (binaryOp _ (Value.ref _) (Value.ref _)) _ _ _); (rename Fr _ _ _ _ => hF'); (rename News _ _ _ _ => hN'); (refine Mine.add_lists' hF' hN' (by walk_at "mem") (by walk_at "mem") ?_ (by walk_at "len") (by walk_at "len")); clear hF' hN'; intro _ _ _ _ l1; (try k_lt l1)); (try (revert l1; intro _))) | walk1 | (dsimp only; walk1) | (leave1; walk_say "STEP leave1"; try dsimp only))))
    rename Fr base L _ _ => F8
    rename News base L _ _ => N8
    rename_i DZ hZ lZ
    refine c_told _ _ _ _ _ _ _ _ [] callerA base base L _ _ _ _ _ B1 F8 KX T1 rfl (by decide) (by decide) N8 lr lr2 wr wr2 nr nr2 one two (by walk_at "mem") (by walk_at "mem") hwr hwr2 (by walk_at "o") (by walk_at "o") ok1 ok2 ?_
    intro DW W1 W2 wa' wb' wc' wd' va' vb' vc vd na nb nc nd za zb h9 tk9 F11 N11 hza pza oza hzb pzb ozb hvc hvd
    clear F8 N8
    (repeat' (
  (fail_if_success (with_reducible show wpAny _ _ (call (Value.ref _) _ _) _ _ _));
  (fail_if_success (with_reducible show wpAny _ _ (eval (Expr.ListComp _ _ _ _) _) _ _ _));
  (fail_if_success (with_reducible show LCg.CompSrc _ _ _ _ _ _ _ _ _ _ _ _ _ _));
  (fail_if_success (with_reducible show wpAny _ _ (compareOp _ (Value.ref _) (Value.ref _)) _ _ _));
  (fail_if_success (with_reducible show wpAny _ _ (call (Value.builtin "sorted") _ _) _ _ _));
  (fail_if_success (with_reducible show wpAny _ _ (binaryOp _ (Value.ref _) (Value.ref _)) _ _ _));
  (fail_if_success (with_reducible show wpAny _ _ (exec (Stmt.Assign _ (Expr.ListComp _ _ _ _) _) _) _ _ _));
  (first | (k_unfold; (try dsimp only)) | (k_end; wrow_close) | ((with_reducible show wpAny _ _ (subscriptTail _ _ (Value.ref _) (Value.int _ _)) _ _ _); k_dflt (refine' item_tupleT (by first | ((exact News.isTup (by k_asm) (by walk_at "mem")); done) | fail) (by decide) (by decide) (by rfl) (by rfl) ?_)) | ((with_reducible show wpAny _ _ (subscriptTail _ _ (Value.ref _) (Value.int _ _)) _ _ _); k_dflt (refine' item_list (by first | ((exact News.isList (by k_asm) (by walk_at "mem")); done) | fail) (by decide) (by decide) (by first | ((first | exact Mine.it0 _ _ | exact Mine.it1 _ _ _); done) | fail) ?_)) | ((with_reducible show wpAny _ _ (eval (Expr.Name _ _) (compEnvC _ _ _ _)) _ _ _); k_dflt (refine' lcf_free (by k_asm) (by rfl) (by first | ((k_mem); done) | fail) (by k_asm) ?_ (by rfl) (by rfl); k_whole)) | ((with_reducible show wpAny _ _ (subscriptTail _ _ (Value.ref _) (Value.int _ _)) _ _ _); k_dflt (refine' item_list (by first | ((exact News.isList (by k_asm) (by walk_at "mem")); done) | fail) (by decide) (by decide) (by first | ((first | exact Mine.it0 _ _ | exact Mine.it1 _ _ _); done) | fail) ?_)) | (((((k_here; (with_reducible show wpAny _ _ (subscriptTail _ (PySem.Expr.Slice _ _ none _) (Value.ref _) (Value.ref _)) _ _ _); k_dflt (refine' kmk_slice_ints (by k_asm) (by k_asm) (by first | ((kmk_list); done) | fail) (by first | ((kmk_part); done) | fail) (by first | ((kmk_part); done) | fail) (by first | ((l_ints); done) | fail) (by first | ((kmk_nums); done) | fail) (by first | ((kmk_len); done) | fail) ?_ (by with_unfolding_all rfl) (by first | ((kmk_pure); done) | fail) (by first | ((kmk_size); done) | fail)); intro _ _ _ _ _ l1 hI' hC' hL'; (try simp only [Int.reduceNeg, Int.neg_neg, Int.reduceToNat] at hI' hC' hL'); (try k_lt l1)); (try (revert l1; intro _))); (try (revert hI'; intro _))); (try (revert hC'; intro _))); (try (revert hL'; intro _))) | (k_here; (with_reducible show wpAny _ _ (call (Value.builtin "sum") [Value.ref _]) _ _ _); (with_unfolding_all refine' sumK (by with_unfolding_all rfl) (by k_asm) (by k_asm) (by first | ((is_list); done) | fail) (by assumption) ?_; k_whole); intro _ _ _ _ _; (try simp only [List.sum_cons, List.sum_nil])) | (k_here; k_dflt (refine' callWith_K (by k_asm) (by first | ((k_is); done) | fail) ?_; k_whole)) | ((with_reducible show wpAny _ _ (call (Value.type "range") [Value.int _ _]) _ _ _); k_dflt (refine' Mine.range1_own (by k_asm) (by k_asm) ?_); intro _ _ _ _ _ _ _ _ _) | ((with_reducible show wpAny _ _ (call (Value.builtin "len") [Value.ref _]) _ _ _); k_dflt (refine' len_list (by first | ((exact News.isList (by k_asm) (by walk_at "mem")); done) | fail) (by first | ((walk_at "len"); done) | fail) ?_); (try simp only [List.size_toArray])) | (((with_reducible show wpAny _ _ (binaryOp _ (Value.ref _) (Value.ref _)) _ _ _); (rename Fr _ _ _ _ => hF'); (rename News _ _ _ _ => hN'); (refine Mine.add_lists' hF' hN' (by walk_at "mem") (by walk_at "mem") ?_ (by walk_at "len") (by walk_at "len")); clear hF' hN'; intro _ _ _ _ l1; (try k_lt l1)); (try (revert l1; intro _))) | walk1 | (dsimp only; walk1) | (leave1; walk_say "STEP leave1"; try dsimp only))))
    have e1 := sld_lack (srt_of oA) pA (srt_of oB) pB (srt_of oza) pza (srt_of ozb) pzb
    rw [e1] at hm1 hm2
    rw [unord_told one two] at hM hL
    have s1 := sld_sub sa sb
    rw [e1] at s1
    have s2 := sld_sub sb sa
    rw [sld_swap, e1] at s2
    have oz1 : OkS za := fun x hx => ok1 x (pA.mem_iff.mp (s1.subset hx))
    have oz2 : OkS zb := fun x hx => ok2 x (pB.mem_iff.mp (s2.subset hx))
    have oz3 : OkS (filtTo (missKeep one two) one one.length).reverse := fun x hx => ok1 x (filtTo_mem (Nat.le_refl _) (List.mem_reverse.mp hx))
    have oz4 : OkS (filtTo (leftKeep one two) two two.length) := fun x hx => ok2 x (filtTo_mem (Nat.le_refl _) hx)
    rename Fr base L _ _ => F12
    rename News base L _ _ => N12
    refine eq_fit (rd_list2 (N12 _ (by walk_at "mem" : (DZ, _) ∈ _)).1 (rd_tup2 (N12 _ (by walk_at "mem" : (DT1, _) ∈ _)).1 (rd_strs (N12 _ (by walk_at "mem" : (lm, _) ∈ _)).1 hm1) (rd_strs (N12 _ (by walk_at "mem" : (lu, _) ∈ _)).1 hm2)) (rd_tup2 (N12 _ (by walk_at "mem" : (DT2, _) ∈ _)).1 (rd_strs (N12 _ (by walk_at "mem" : (lM, _) ∈ _)).1 hM) (rd_strs (N12 _ (by walk_at "mem" : (DD, _) ∈ _)).1 hL))) (rd_list2 (N12 _ (by walk_at "mem" : (DW, _) ∈ _)).1 (rd_tup2 (N12 _ (by walk_at "mem" : (W1, _) ∈ _)).1 (rd_strs (N12 _ (by walk_at "mem" : (wa', _) ∈ _)).1 hza) (rd_strs (N12 _ (by walk_at "mem" : (wb', _) ∈ _)).1 hzb)) (rd_tup2 (N12 _ (by walk_at "mem" : (W2, _) ∈ _)).1 (rd_strs (N12 _ (by walk_at "mem" : (wc', _) ∈ _)).1 hvc) (rd_strs (N12 _ (by walk_at "mem" : (wd', _) ∈ _)).1 hvd))) (FitAll.list (fit_pair (FitAll.tuple (fit_pair (FitAll.list (fit_strs (k := 0) oz1)) (FitAll.list (fit_strs oz2)))) (FitAll.tuple (fit_pair (FitAll.list (fit_strs oz3)) (FitAll.list (fit_strs oz4)))))) (by decide) (by ktr_units) ?_
    (repeat' (
  (fail_if_success (with_reducible show wpAny _ _ (call (Value.ref _) _ _) _ _ _));
  (fail_if_success (with_reducible show wpAny _ _ (eval (Expr.ListComp _ _ _ _) _) _ _ _));
  (fail_if_success (with_reducible show LCg.CompSrc _ _ _ _ _ _ _ _ _ _ _ _ _ _));
  (fail_if_success (with_reducible show wpAny _ _ (compareOp _ (Value.ref _) (Value.ref _)) _ _ _));
  (fail_if_success (with_reducible show wpAny _ _ (call (Value.builtin "sorted") _ _) _ _ _));
  (fail_if_success (with_reducible show wpAny _ _ (binaryOp _ (Value.ref _) (Value.ref _)) _ _ _));
  (fail_if_success (with_reducible show wpAny _ _ (exec (Stmt.Assign _ (Expr.ListComp _ _ _ _) _) _) _ _ _));
  (first | (k_unfold; (try dsimp only)) | (k_end; wrow_close) | ((with_reducible show wpAny _ _ (subscriptTail _ _ (Value.ref _) (Value.int _ _)) _ _ _); k_dflt (refine' item_tupleT (by first | ((exact News.isTup (by k_asm) (by walk_at "mem")); done) | fail) (by decide) (by decide) (by rfl) (by rfl) ?_)) | ((with_reducible show wpAny _ _ (subscriptTail _ _ (Value.ref _) (Value.int _ _)) _ _ _); k_dflt (refine' item_list (by first | ((exact News.isList (by k_asm) (by walk_at "mem")); done) | fail) (by decide) (by decide) (by first | ((first | exact Mine.it0 _ _ | exact Mine.it1 _ _ _); done) | fail) ?_)) | ((with_reducible show wpAny _ _ (eval (Expr.Name _ _) (compEnvC _ _ _ _)) _ _ _); k_dflt (refine' lcf_free (by k_asm) (by rfl) (by first | ((k_mem); done) | fail) (by k_asm) ?_ (by rfl) (by rfl); k_whole)) | ((with_reducible show wpAny _ _ (subscriptTail _ _ (Value.ref _) (Value.int _ _)) _ _ _); k_dflt (refine' item_list (by first | ((exact News.isList (by k_asm) (by walk_at "mem")); done) | fail) (by decide) (by decide) (by first | ((first | exact Mine.it0 _ _ | exact Mine.it1 _ _ _); done) | fail) ?_)) | (((((k_here; (with_reducible show wpAny _ _ (subscriptTail _ (PySem.Expr.Slice _ _ none _) (Value.ref _) (Value.ref _)) _ _ _); k_dflt (refine' kmk_slice_ints (by k_asm) (by k_asm) (by first | ((kmk_list); done) | fail) (by first | ((kmk_part); done) | fail) (by first | ((kmk_part); done) | fail) (by first | ((l_ints); done) | fail) (by first | ((kmk_nums); done) | fail) (by first | ((kmk_len); done) | fail) ?_ (by with_unfolding_all rfl) (by first | ((kmk_pure); done) | fail) (by first | ((kmk_size); done) | fail)); intro _ _ _ _ _ l1 hI' hC' hL'; (try simp only [Int.reduceNeg, Int.neg_neg, Int.reduceToNat] at hI' hC' hL'); (try k_lt l1)); (try (revert l1; intro _))); (try (revert hI'; intro _))); (try (revert hC'; intro _))); (try (revert hL'; intro _))) | (k_here; (with_reducible show wpAny _ _ (call (Value.builtin "sum") [Value.ref _]) _ _ _); (with_unfolding_all refine' sumK (by with_unfolding_all rfl) (by k_asm) (by k_asm) (by first | ((is_list); done) | fail) (by assumption) ?_; k_whole); intro _ _ _ _ _; (try simp only [List.sum_cons, List.sum_nil])) | (k_here; k_dflt (refine' callWith_K (by k_asm) (by first | ((k_is); done) | fail) ?_; k_whole)) | ((with_reducible show wpAny _ _ (call (Value.type "range") [Value.int _ _]) _ _ _); k_dflt (refine' Mine.range1_own (by k_asm) (by k_asm) ?_); intro _ _ _ _ _ _ _ _ _) | ((with_reducible show wpAny _ _ (call (Value.builtin "len") [Value.ref _]) _ _ _); k_dflt (refine' len_list (by first | ((exact News.isList (by k_asm) (by walk_at "mem")); done) | fail) (by first | ((walk_at "len"); done) | fail) ?_); (try simp only [List.size_toArray])) | (((with_reducible show wpAny _ _ (binaryOp _ (Value.ref _) (Value.ref _)) _ _ _); (rename Fr _ _ _ _ => hF'); (rename News _ _ _ _ => hN'); (refine Mine.add_lists' hF' hN' (by walk_at "mem") (by walk_at "mem") ?_ (by walk_at "len") (by walk_at "len")); clear hF' hN'; intro _ _ _ _ l1; (try k_lt l1)); (try (revert l1; intro _))) | walk1 | (dsimp only; walk1) | (leave1; walk_say "STEP leave1"; try dsimp only))))
    exact hret _ _ pa pb pc [] _ F12 (news_sub N12 (by walk_at "sub"))
theorem c_law2 {w : World} {p : Program} {loose : List Str} {mean : ExcName → Option Value} {mg mb : Str → Option Value} (base : Heap) (L fa : Addr) (m : Str → Option Value) (o1 o2 o3 o4 : Obj) (s : Shared) (Q : Flow → Shared → Prop) (E : Value → Shared → Prop)
    (B1 : Below callerA base [] base) (KX : (hd.heap_1 w.params).In base) (T1 : Top p loose mean mg mb base) (Cd1 : CodeHd base 34 30) (Cd3 : CodeHd base 119 117) (KN : KNo w.params base) (hL1 : 121 ≤ L)
    (D5 dT lr dT2 lr2 lt D3 D2 D1 t0 t1 : Addr) (wr wr2 ws2 ws3 ws1 : List Value) (nr nr2 n2 n3 n1 : Nat) (tr tr2 : Tok) (ps2 : Array Value) (own : List (Addr × Obj)) (tp0 tp1 : List Int) (ts0 ts1 : List Str) (j0 : Nat) (nD50 : (D5 : Addr) ≠ L + 1 + 1 + 1 + 1) (nD51 : (D5 : Addr) ≠ L + 1 + 1 + 1) (nD52 : (D5 : Addr) ≠ L + 1 + 1) (nD53 : (D5 : Addr) ≠ L + 1) (nD54 : (D5 : Addr) ≠ 30) (nD55 : (D5 : Addr) ≠ 79) (nD56 : (D5 : Addr) ≠ 117) (ndT0 : (dT : Addr) ≠ L + 1 + 1 + 1 + 1) (ndT1 : (dT : Addr) ≠ L + 1 + 1 + 1) (ndT2 : (dT : Addr) ≠ L + 1 + 1) (ndT3 : (dT : Addr) ≠ L + 1) (ndT4 : (dT : Addr) ≠ 30) (ndT5 : (dT : Addr) ≠ 79) (ndT6 : (dT : Addr) ≠ 117) (nlr0 : (lr : Addr) ≠ L + 1 + 1 + 1 + 1) (nlr1 : (lr : Addr) ≠ L + 1 + 1 + 1) (nlr2 : (lr : Addr) ≠ L + 1 + 1) (nlr3 : (lr : Addr) ≠ L + 1) (nlr4 : (lr : Addr) ≠ 30) (nlr5 : (lr : Addr) ≠ 79) (nlr6 : (lr : Addr) ≠ 117) (ndT20 : (dT2 : Addr) ≠ L + 1 + 1 + 1 + 1) (ndT21 : (dT2 : Addr) ≠ L + 1 + 1 + 1) (ndT22 : (dT2 : Addr) ≠ L + 1 + 1) (ndT23 : (dT2 : Addr) ≠ L + 1) (ndT24 : (dT2 : Addr) ≠ 30) (ndT25 : (dT2 : Addr) ≠ 79) (ndT26 : (dT2 : Addr) ≠ 117) (nlr20 : (lr2 : Addr) ≠ L + 1 + 1 + 1 + 1) (nlr21 : (lr2 : Addr) ≠ L + 1 + 1 + 1) (nlr22 : (lr2 : Addr) ≠ L + 1 + 1) (nlr23 : (lr2 : Addr) ≠ L + 1) (nlr24 : (lr2 : Addr) ≠ 30) (nlr25 : (lr2 : Addr) ≠ 79) (nlr26 : (lr2 : Addr) ≠ 117) (glt : L + 1 + 1 + 1 + 1 < (lt : Nat)) (gD3 : L + 1 + 1 + 1 + 1 < (D3 : Nat)) (gD2 : L + 1 + 1 + 1 + 1 < (D2 : Nat)) (gD1 : L + 1 + 1 + 1 + 1 < (D1 : Nat)) (gt1 : L + 1 + 1 + 1 + 1 < (t1 : Nat)) (gown : ∀ q ∈ own, L + 1 + 1 + 1 + 1 < q.1)
    (F5 : Fr base L s.heap m) (hm : m (Str.ofString "read") = some (.ref D5))
    (N5 : News base L s.heap ((D5, LCg.lst [.ref dT, .ref dT2]) :: (dT2, tupOf [.ref lr2, .str (whole tp1).2 tr2]) :: (lr2, listOf wr2.toArray nr2) :: (dT, tupOf [.ref lr, .str (whole tp0).2 tr]) :: (lr, listOf wr.toArray nr) :: (lt, listOf #[.ref D2, .ref D3] 0) :: (D3, listOf ws3.toArray n3) :: (D2, listOf ws2.toArray n2) :: (D1, listOf #[.ref t0, .ref t1] 0) :: (t1, listOf ws1.toArray n1) :: (L + 1 + 1 + 1 + 1, o4) :: (L + 1 + 1 + 1, o3) :: (L + 1 + 1, o2) :: (L + 1, o1) :: (30, tabObj #[]) :: (79, tabObj ps2) :: (117, tabObj #[]) :: own))
    (ho1 : o1.data = .cell (some (.ref D1))) (ho2 : o2.data = .cell (some (.ref lt))) (ho3 : o3.data = .cell none) (ho4 : o4.data = .cell none)
    (p0 : ∀ x ∈ ts0, x ∈ piecesL) (p1 : ∀ x ∈ ts1, x ∈ piecesL) (z0 : ts0.length ≤ 18) (z1 : 5 ≤ ts1.length ∧ ts1.length ≤ 15) (hw2 : IntsAre ws2 tp0) (hw3 : IntsAre ws3 tp1) (b0 : ∀ x ∈ tp0, 0 ≤ x ∧ x < 256) (c0 : tp0.length ≤ 200) (b1 : ∀ x ∈ tp1, 0 ≤ x ∧ x < 256) (c1 : tp1.length ≤ 200)
    (one0 : (whole tp0).1 = ts0.take j0) (two0 : (whole tp1).1 = ts1) (hwr : StrsAre wr (whole tp0).1) (hwr2 : StrsAre wr2 (whole tp1).1) (hw1 : StrsAre ws1 ts1)
    (hret : ∀ h' tk' ps1 ps2 ps3 nx m', Fr base L h' m' → News base L h' ((30, tabObj ps1) :: (79, tabObj ps2) :: (117, tabObj ps3) :: nx) → Q (.ret (.bool true)) { s with heap := h', toks := tk' }) :
    wpAny (model Challenge.rw_il0109_01.row.prog w) (callerA.deeper (envOfC (Str.ofString "law") (lawFn w.params).2 L fa (.ref 119))) (execs ((lawFn w.params).1.drop 3) (envOfC (Str.ofString "law") (lawFn w.params).2 L fa (.ref 119))) Q E s := by
  repeat (conv in (lawFn _) => whnf)
  try dsimp only [List.drop]
  revert KX; k_fill; intro KX
  rw [mset hm] at F5
  have hL2 := nat_le hL1
  replace glt := nat_lt glt
  replace gD3 := nat_lt gD3
  replace gD2 := nat_lt gD2
  replace gD1 := nat_lt gD1
  replace gt1 := nat_lt gt1
  (repeat' (
  (fail_if_success (with_reducible show wpAny _ _ (call (Value.ref _) _ _) _ _ _));
  (fail_if_success (with_reducible show wpAny _ _ (eval (Expr.ListComp _ _ _ _) _) _ _ _));
  (fail_if_success (with_reducible show LCg.CompSrc _ _ _ _ _ _ _ _ _ _ _ _ _ _));
  (fail_if_success (with_reducible show wpAny _ _ (compareOp _ (Value.ref _) (Value.ref _)) _ _ _));
  (fail_if_success (with_reducible show wpAny _ _ (call (Value.builtin "sorted") _ _) _ _ _));
  (fail_if_success (with_reducible show wpAny _ _ (binaryOp _ (Value.ref _) (Value.ref _)) _ _ _));
  (fail_if_success (with_reducible show wpAny _ _ (exec (Stmt.Assign _ (Expr.ListComp _ _ _ _) _) _) _ _ _));
  (first | (k_unfold; (try dsimp only)) | (k_end; wrow_close) | ((with_reducible show wpAny _ _ (subscriptTail _ _ (Value.ref _) (Value.int _ _)) _ _ _); k_dflt (refine' item_tupleT (by first | ((exact News.isTup (by k_asm) (by walk_at "mem")); done) | fail) (by decide) (by decide) (by rfl) (by rfl) ?_)) | ((with_reducible show wpAny _ _ (subscriptTail _ _ (Value.ref _) (Value.int _ _)) _ _ _); k_dflt (refine' item_list (by first | ((exact News.isList (by k_asm) (by walk_at "mem")); done) | fail) (by decide) (by decide) (by first | ((first | exact Mine.it0 _ _ | exact Mine.it1 _ _ _); done) | fail) ?_)) | ((with_reducible show wpAny _ _ (eval (Expr.Name _ _) (compEnvC _ _ _ _)) _ _ _); k_dflt (refine' lcf_free (by k_asm) (by rfl) (by first | ((k_mem); done) | fail) (by k_asm) ?_ (by rfl) (by rfl); k_whole)) | ((with_reducible show wpAny _ _ (subscriptTail _ _ (Value.ref _) (Value.int _ _)) _ _ _); k_dflt (refine' item_list (by first | ((exact News.isList (by k_asm) (by walk_at "mem")); done) | fail) (by decide) (by decide) (by first | ((first | exact Mine.it0 _ _ | exact Mine.it1 _ _ _); done) | fail) ?_)) | (((((k_here; (with_reducible show wpAny _ _ (subscriptTail _ (PySem.Expr.Slice _ _ none _) (Value.ref _) (Value.ref _)) _ _ _); k_dflt (refine' kmk_slice_ints (by k_asm) (by k_asm) (by first | ((kmk_list); done) | fail) (by first | ((kmk_part); done) | fail) (by first | ((kmk_part); done) | fail) (by first | ((l_ints); done) | fail) (by first | ((kmk_nums); done) | fail) (by first | ((kmk_len); done) | fail) ?_ (by with_unfolding_all rfl) (by first | ((kmk_pure); done) | fail) (by first | ((kmk_size); done) | fail)); intro _ _ _ _ _ l1 hI' hC' hL'; (try simp only [Int.reduceNeg, Int.neg_neg, Int.reduceToNat] at hI' hC' hL'); (try k_lt l1)); (try (revert l1; intro _))); (try (revert hI'; intro _))); (try (revert hC'; intro _))); (try (revert hL'; intro _))) | (k_here; (with_reducible show wpAny _ _ (call (Value.builtin "sum") [Value.ref _]) _ _ _); (with_unfolding_all refine' sumK (by with_unfolding_all rfl) (by k_asm) (by k_asm) (by first | ((is_list); done) | fail) (by assumption) ?_; k_whole); intro _ _ _ _ _; (try simp only [List.sum_cons, List.sum_nil])) | (k_here; k_dflt (refine' callWith_K (by k_asm) (by first | ((k_is); done) | fail) ?_; k_whole)) | ((with_reducible show wpAny _ _ (call (Value.type "range") [Value.int _ _]) _ _ _); k_dflt (refine' Mine.range1_own (by k_asm) (by k_asm) ?_); intro _ _ _ _ _ _ _ _ _) | (((with_reducible show wpAny _ _ (binaryOp _ (Value.ref _) (Value.ref _)) _ _ _); (rename Fr _ _ _ _ => hF'); (rename News _ _ _ _ => hN'); (refine Mine.add_lists' hF' hN' (by walk_at "mem") (by walk_at "mem") ?_ (by walk_at "len") (by walk_at "len")); clear hF' hN'; intro _ _ _ _ l1; (try k_lt l1)); (try (revert l1; intro _))) | walk1 | (dsimp only; walk1) | (leave1; walk_say "STEP leave1"; try dsimp only))))
  k_dflt refine' LCg.ListComp_U F5 ?x3 ?x4 ?x5 ?x6 ?x8 ?_ ?x10
  case x5 => rfl
  case x4 => decide
  case x6 => decide
  case x8 => rfl
  case x10 => intro _; with_unfolding_all rfl
  case x3 => with_unfolding_all rfl
  (repeat' (
  (fail_if_success (with_reducible show wpAny _ _ (call (Value.ref _) _ _) _ _ _));
  (fail_if_success (with_reducible show wpAny _ _ (eval (Expr.ListComp _ _ _ _) _) _ _ _));
  (fail_if_success (with_reducible show LCg.CompSrc _ _ _ _ _ _ _ _ _ _ _ _ _ _));
  (fail_if_success (with_reducible show wpAny _ _ (compareOp _ (Value.ref _) (Value.ref _)) _ _ _));
  (fail_if_success (with_reducible show wpAny _ _ (call (Value.builtin "sorted") _ _) _ _ _));
  (fail_if_success (with_reducible show wpAny _ _ (binaryOp _ (Value.ref _) (Value.ref _)) _ _ _));
  (fail_if_success (with_reducible show wpAny _ _ (exec (Stmt.Assign _ (Expr.ListComp _ _ _ _) _) _) _ _ _));
  (first | (k_unfold; (try dsimp only)) | (k_end; wrow_close) | ((with_reducible show wpAny _ _ (subscriptTail _ _ (Value.ref _) (Value.int _ _)) _ _ _); k_dflt (refine' item_tupleT (by first | ((exact News.isTup (by k_asm) (by walk_at "mem")); done) | fail) (by decide) (by decide) (by rfl) (by rfl) ?_)) | ((with_reducible show wpAny _ _ (subscriptTail _ _ (Value.ref _) (Value.int _ _)) _ _ _); k_dflt (refine' item_list (by first | ((exact News.isList (by k_asm) (by walk_at "mem")); done) | fail) (by decide) (by decide) (by first | ((first | exact Mine.it0 _ _ | exact Mine.it1 _ _ _); done) | fail) ?_)) | ((with_reducible show wpAny _ _ (eval (Expr.Name _ _) (compEnvC _ _ _ _)) _ _ _); k_dflt (refine' lcf_free (by k_asm) (by rfl) (by first | ((k_mem); done) | fail) (by k_asm) ?_ (by rfl) (by rfl); k_whole)) | ((with_reducible show wpAny _ _ (subscriptTail _ _ (Value.ref _) (Value.int _ _)) _ _ _); k_dflt (refine' item_list (by first | ((exact News.isList (by k_asm) (by walk_at "mem")); done) | fail) (by decide) (by decide) (by first | ((first | exact Mine.it0 _ _ | exact Mine.it1 _ _ _); done) | fail) ?_)) | (((((k_here; (with_reducible show wpAny _ _ (subscriptTail _ (PySem.Expr.Slice _ _ none _) (Value.ref _) (Value.ref _)) _ _ _); k_dflt (refine' kmk_slice_ints (by k_asm) (by k_asm) (by first | ((kmk_list); done) | fail) (by first | ((kmk_part); done) | fail) (by first | ((kmk_part); done) | fail) (by first | ((l_ints); done) | fail) (by first | ((kmk_nums); done) | fail) (by first | ((kmk_len); done) | fail) ?_ (by with_unfolding_all rfl) (by first | ((kmk_pure); done) | fail) (by first | ((kmk_size); done) | fail)); intro _ _ _ _ _ l1 hI' hC' hL'; (try simp only [Int.reduceNeg, Int.neg_neg, Int.reduceToNat] at hI' hC' hL'); (try k_lt l1)); (try (revert l1; intro _))); (try (revert hI'; intro _))); (try (revert hC'; intro _))); (try (revert hL'; intro _))) | (k_here; (with_reducible show wpAny _ _ (call (Value.builtin "sum") [Value.ref _]) _ _ _); (with_unfolding_all refine' sumK (by with_unfolding_all rfl) (by k_asm) (by k_asm) (by first | ((is_list); done) | fail) (by assumption) ?_; k_whole); intro _ _ _ _ _; (try simp only [List.sum_cons, List.sum_nil])) | (k_here; k_dflt (refine' callWith_K (by k_asm) (by first | ((k_is); done) | fail) ?_; k_whole)) | ((with_reducible show wpAny _ _ (call (Value.type "range") [Value.int _ _]) _ _ _); k_dflt (refine' Mine.range1_own (by k_asm) (by k_asm) ?_); intro _ _ _ _ _ _ _ _ _) | (((with_reducible show wpAny _ _ (binaryOp _ (Value.ref _) (Value.ref _)) _ _ _); (rename Fr _ _ _ _ => hF'); (rename News _ _ _ _ => hN'); (refine Mine.add_lists' hF' hN' (by walk_at "mem") (by walk_at "mem") ?_ (by walk_at "len") (by walk_at "len")); clear hF' hN'; intro _ _ _ _ l1; (try k_lt l1)); (try (revert l1; intro _))) | walk1 | (dsimp only; walk1) | (leave1; walk_say "STEP leave1"; try dsimp only))))
  refine LCg.CompSrc.ledger rfl F5 N5 (by walk_at "mem" : (lt, _) ∈ _) (by rw [sizeLine_eq]; exact Nat.le_of_ble_eq_true rfl) ?_
  intro hg2
  lcg_lit
  clear F5 N5
  refine LCg.CompRest.succ ?_
  intro v I oI C oC D m₂ h6 tk6 E' hv hC hx F7 N7 off nIC
  obtain rfl : Value.ref D2 = v := Option.some.inj hv
  try simp only [List.cons_append, List.nil_append] at N7 off
  (repeat' (
  (fail_if_success (with_reducible show wpAny _ _ (call (Value.ref _) _ _) _ _ _));
  (fail_if_success (with_reducible show wpAny _ _ (eval (Expr.ListComp _ _ _ _) _) _ _ _));
  (fail_if_success (with_reducible show LCg.CompSrc _ _ _ _ _ _ _ _ _ _ _ _ _ _));
  (fail_if_success (with_reducible show wpAny _ _ (compareOp _ (Value.ref _) (Value.ref _)) _ _ _));
  (fail_if_success (with_reducible show wpAny _ _ (call (Value.builtin "sorted") _ _) _ _ _));
  (fail_if_success (with_reducible show wpAny _ _ (binaryOp _ (Value.ref _) (Value.ref _)) _ _ _));
  (fail_if_success (with_reducible show wpAny _ _ (exec (Stmt.Assign _ (Expr.ListComp _ _ _ _) _) _) _ _ _));
  (first | (k_unfold; (try dsimp only)) | (k_end; wrow_close) | ((with_reducible show wpAny _ _ (subscriptTail _ _ (Value.ref _) (Value.int _ _)) _ _ _); k_dflt (refine' item_tupleT (by first | ((exact News.isTup (by k_asm) (by walk_at "mem")); done) | fail) (by decide) (by decide) (by rfl) (by rfl) ?_)) | ((with_reducible show wpAny _ _ (subscriptTail _ _ (Value.ref _) (Value.int _ _)) _ _ _); k_dflt (refine' item_list (by first | ((exact News.isList (by k_asm) (by walk_at "mem")); done) | fail) (by decide) (by decide) (by first | ((first | exact Mine.it0 _ _ | exact Mine.it1 _ _ _); done) | fail) ?_)) | ((with_reducible show wpAny _ _ (eval (Expr.Name _ _) (compEnvC _ _ _ _)) _ _ _); k_dflt (refine' lcf_free (by k_asm) (by rfl) (by first | ((k_mem); done) | fail) (by k_asm) ?_ (by rfl) (by rfl); k_whole)) | ((with_reducible show wpAny _ _ (subscriptTail _ _ (Value.ref _) (Value.int _ _)) _ _ _); k_dflt (refine' item_list (by first | ((exact News.isList (by k_asm) (by walk_at "mem")); done) | fail) (by decide) (by decide) (by first | ((first | exact Mine.it0 _ _ | exact Mine.it1 _ _ _); done) | fail) ?_)) | (((((k_here; (with_reducible show wpAny _ _ (subscriptTail _ (PySem.Expr.Slice _ _ none _) (Value.ref _) (Value.ref _)) _ _ _); k_dflt (refine' kmk_slice_ints (by k_asm) (by k_asm) (by first | ((kmk_list); done) | fail) (by first | ((kmk_part); done) | fail) (by first | ((kmk_part); done) | fail) (by first | ((l_ints); done) | fail) (by first | ((kmk_nums); done) | fail) (by first | ((kmk_len); done) | fail) ?_ (by with_unfolding_all rfl) (by first | ((kmk_pure); done) | fail) (by first | ((kmk_size); done) | fail)); intro _ _ _ _ _ l1 hI' hC' hL'; (try simp only [Int.reduceNeg, Int.neg_neg, Int.reduceToNat] at hI' hC' hL'); (try k_lt l1)); (try (revert l1; intro _))); (try (revert hI'; intro _))); (try (revert hC'; intro _))); (try (revert hL'; intro _))) | (k_here; (with_reducible show wpAny _ _ (call (Value.builtin "sum") [Value.ref _]) _ _ _); (with_unfolding_all refine' sumK (by with_unfolding_all rfl) (by k_asm) (by k_asm) (by first | ((is_list); done) | fail) (by assumption) ?_; k_whole); intro _ _ _ _ _; (try simp only [List.sum_cons, List.sum_nil])) | (k_here; k_dflt (refine' callWith_K (by k_asm) (by first | ((k_is); done) | fail) ?_; k_whole)) | ((with_reducible show wpAny _ _ (call (Value.type "range") [Value.int _ _]) _ _ _); k_dflt (refine' Mine.range1_own (by k_asm) (by k_asm) ?_); intro _ _ _ _ _ _ _ _ _) | (((with_reducible show wpAny _ _ (binaryOp _ (Value.ref _) (Value.ref _)) _ _ _); (rename Fr _ _ _ _ => hF'); (rename News _ _ _ _ => hN'); (refine Mine.add_lists' hF' hN' (by walk_at "mem") (by walk_at "mem") ?_ (by walk_at "len") (by walk_at "len")); clear hF' hN'; intro _ _ _ _ l1; (try k_lt l1)); (try (revert l1; intro _))) | walk1 | (dsimp only; walk1) | (leave1; walk_say "STEP leave1"; try dsimp only))))
  rename Fr base L _ _ => F8
  rename News base L _ _ => N8
  refine c_whole _ _ _ _ _ _ _ _ [] callerA base base L _ _ _ _ _ B1 F8 KX T1 rfl (by decide) (by decide) N8 D2 _ tp0 _ (by walk_at "mem") hw2 c0 b0 ?_
  intro dU lu wu nu tu h7 tk7 F9 N9 hwu hlu hlu2
  have hlu3 := nat_lt hlu2
  refine compEnd_read (own := []) F9 N9 off (fun q hq => nomatch hq) (fun p hp => by
    have h9 := nat_lt (hlu p hp)
    exact ⟨neN (by walk_at "o"), neN (by walk_at "o")⟩) (.inr ⟨_, (by walk_at "mem"), rfl, _, rfl⟩) ?_
  clear F8 N8 F9 N9 off hlu hlu2 hlu3 hC hx nIC
  refine LCg.CompRest.succ ?_
  intro v I oI C oC D m₂ h6 tk6 E' hv hC hx F7 N7 off nIC
  obtain rfl : Value.ref D3 = v := Option.some.inj hv
  try simp only [List.cons_append, List.nil_append] at N7 off
  (repeat' (
  (fail_if_success (with_reducible show wpAny _ _ (call (Value.ref _) _ _) _ _ _));
  (fail_if_success (with_reducible show wpAny _ _ (eval (Expr.ListComp _ _ _ _) _) _ _ _));
  (fail_if_success (with_reducible show LCg.CompSrc _ _ _ _ _ _ _ _ _ _ _ _ _ _));
  (fail_if_success (with_reducible show wpAny _ _ (compareOp _ (Value.ref _) (Value.ref _)) _ _ _));
  (fail_if_success (with_reducible show wpAny _ _ (call (Value.builtin "sorted") _ _) _ _ _));
  (fail_if_success (with_reducible show wpAny _ _ (binaryOp _ (Value.ref _) (Value.ref _)) _ _ _));
  (fail_if_success (with_reducible show wpAny _ _ (exec (Stmt.Assign _ (Expr.ListComp _ _ _ _) _) _) _ _ _));
  (first | (k_unfold; (try dsimp only)) | (k_end; wrow_close) | ((with_reducible show wpAny _ _ (subscriptTail _ _ (Value.ref _) (Value.int _ _)) _ _ _); k_dflt (refine' item_tupleT (by first | ((exact News.isTup (by k_asm) (by walk_at "mem")); done) | fail) (by decide) (by decide) (by rfl) (by rfl) ?_)) | ((with_reducible show wpAny _ _ (subscriptTail _ _ (Value.ref _) (Value.int _ _)) _ _ _); k_dflt (refine' item_list (by first | ((exact News.isList (by k_asm) (by walk_at "mem")); done) | fail) (by decide) (by decide) (by first | ((first | exact Mine.it0 _ _ | exact Mine.it1 _ _ _); done) | fail) ?_)) | ((with_reducible show wpAny _ _ (eval (Expr.Name _ _) (compEnvC _ _ _ _)) _ _ _); k_dflt (refine' lcf_free (by k_asm) (by rfl) (by first | ((k_mem); done) | fail) (by k_asm) ?_ (by rfl) (by rfl); k_whole)) | ((with_reducible show wpAny _ _ (subscriptTail _ _ (Value.ref _) (Value.int _ _)) _ _ _); k_dflt (refine' item_list (by first | ((exact News.isList (by k_asm) (by walk_at "mem")); done) | fail) (by decide) (by decide) (by first | ((first | exact Mine.it0 _ _ | exact Mine.it1 _ _ _); done) | fail) ?_)) | (((((k_here; (with_reducible show wpAny _ _ (subscriptTail _ (PySem.Expr.Slice _ _ none _) (Value.ref _) (Value.ref _)) _ _ _); k_dflt (refine' kmk_slice_ints (by k_asm) (by k_asm) (by first | ((kmk_list); done) | fail) (by first | ((kmk_part); done) | fail) (by first | ((kmk_part); done) | fail) (by first | ((l_ints); done) | fail) (by first | ((kmk_nums); done) | fail) (by first | ((kmk_len); done) | fail) ?_ (by with_unfolding_all rfl) (by first | ((kmk_pure); done) | fail) (by first | ((kmk_size); done) | fail)); intro _ _ _ _ _ l1 hI' hC' hL'; (try simp only [Int.reduceNeg, Int.neg_neg, Int.reduceToNat] at hI' hC' hL'); (try k_lt l1)); (try (revert l1; intro _))); (try (revert hI'; intro _))); (try (revert hC'; intro _))); (try (revert hL'; intro _))) | (k_here; (with_reducible show wpAny _ _ (call (Value.builtin "sum") [Value.ref _]) _ _ _); (with_unfolding_all refine' sumK (by with_unfolding_all rfl) (by k_asm) (by k_asm) (by first | ((is_list); done) | fail) (by assumption) ?_; k_whole); intro _ _ _ _ _; (try simp only [List.sum_cons, List.sum_nil])) | (k_here; k_dflt (refine' callWith_K (by k_asm) (by first | ((k_is); done) | fail) ?_; k_whole)) | ((with_reducible show wpAny _ _ (call (Value.type "range") [Value.int _ _]) _ _ _); k_dflt (refine' Mine.range1_own (by k_asm) (by k_asm) ?_); intro _ _ _ _ _ _ _ _ _) | (((with_reducible show wpAny _ _ (binaryOp _ (Value.ref _) (Value.ref _)) _ _ _); (rename Fr _ _ _ _ => hF'); (rename News _ _ _ _ => hN'); (refine Mine.add_lists' hF' hN' (by walk_at "mem") (by walk_at "mem") ?_ (by walk_at "len") (by walk_at "len")); clear hF' hN'; intro _ _ _ _ l1; (try k_lt l1)); (try (revert l1; intro _))) | walk1 | (dsimp only; walk1) | (leave1; walk_say "STEP leave1"; try dsimp only))))
  rename Fr base L _ _ => F8
  rename News base L _ _ => N8
  refine c_whole _ _ _ _ _ _ _ _ [] callerA base base L _ _ _ _ _ B1 F8 KX T1 rfl (by decide) (by decide) N8 D3 _ tp1 _ (by walk_at "mem") hw3 c1 b1 ?_
  intro dU2 lu2 wu2 nu2 tu2 h7 tk7 F9 N9 hwu2 hlu hlu2
  have hlu3 := nat_lt hlu2
  refine compEnd_read (own := []) F9 N9 off (fun q hq => nomatch hq) (fun p hp => by
    have h9 := nat_lt (hlu p hp)
    exact ⟨neN (by walk_at "o"), neN (by walk_at "o")⟩) (.inr ⟨_, (by walk_at "mem"), rfl, _, rfl⟩) ?_
  clear F8 N8 F9 N9 off hlu hlu2 hlu3 hC hx nIC
  refine LCg.CompRest.zero ?_
  intro D6 h6 tk6 F6 N6 off6
  try simp only [List.cons_append, List.nil_append] at N6 off6
  rw [one0] at hwr hwu
  rw [two0] at hwr2 hwu2
  have ok0 := okS_take p0 j0
  have ok1 : OkS ts1 := fun x hx => piece_ok (p1 x hx)
  have okr0 := refusal_ok _ tp0 (Nat.le_refl _)
  have okr1 := refusal_ok _ tp1 (Nat.le_refl _)
  refine ne_fit (rd_list2 (n := 2) (N6 _ (by walk_at "mem" : (D5, LCg.lst _) ∈ _)).1 (rd_tup2 (N6 _ (by walk_at "mem" : (dT, _) ∈ _)).1 (rd_strs (N6 _ (by walk_at "mem" : (lr, _) ∈ _)).1 hwr) (rd_str _ _)) (rd_tup2 (N6 _ (by walk_at "mem" : (dT2, _) ∈ _)).1 (rd_strs (N6 _ (by walk_at "mem" : (lr2, _) ∈ _)).1 hwr2) (rd_str _ _)))
    (rd_list2 (n := 2) (N6 _ (by walk_at "mem" : (D6, LCg.lst _) ∈ _)).1 (rd_tup2 (N6 _ (by walk_at "mem" : (dU, _) ∈ _)).1 (rd_strs (N6 _ (by walk_at "mem" : (lu, _) ∈ _)).1 hwu) (rd_str _ _)) (rd_tup2 (N6 _ (by walk_at "mem" : (dU2, _) ∈ _)).1 (rd_strs (N6 _ (by walk_at "mem" : (lu2, _) ∈ _)).1 hwu2) (rd_str _ _)))
    (FitAll.list (fit_pair (FitAll.tuple (fit_pair (FitAll.list (fit_strs (k := 0) ok0)) (fit_str okr0))) (FitAll.tuple (fit_pair (FitAll.list (fit_strs (k := 0) ok1)) (fit_str okr1))))) (by decide) (by ktr_units) ?_
  clear okr0 okr1
  (repeat' (
  (fail_if_success (with_reducible show wpAny _ _ (call (Value.ref _) _ _) _ _ _));
  (fail_if_success (with_reducible show wpAny _ _ (eval (Expr.ListComp _ _ _ _) _) _ _ _));
  (fail_if_success (with_reducible show LCg.CompSrc _ _ _ _ _ _ _ _ _ _ _ _ _ _));
  (fail_if_success (with_reducible show wpAny _ _ (compareOp _ (Value.ref _) (Value.ref _)) _ _ _));
  (fail_if_success (with_reducible show wpAny _ _ (call (Value.builtin "sorted") _ _) _ _ _));
  (fail_if_success (with_reducible show wpAny _ _ (binaryOp _ (Value.ref _) (Value.ref _)) _ _ _));
  (fail_if_success (with_reducible show wpAny _ _ (exec (Stmt.Assign _ (Expr.ListComp _ _ _ _) _) _) _ _ _));
  (first | (k_unfold; (try dsimp only)) | (k_end; wrow_close) | ((with_reducible show wpAny _ _ (subscriptTail _ _ (Value.ref _) (Value.int _ _)) _ _ _); k_dflt (refine' item_tupleT (by first | ((exact News.isTup (by k_asm) (by walk_at "mem")); done) | fail) (by decide) (by decide) (by rfl) (by rfl) ?_)) | ((with_reducible show wpAny _ _ (subscriptTail _ _ (Value.ref _) (Value.int _ _)) _ _ _); k_dflt (refine' item_list (by first | ((exact News.isList (by k_asm) (by walk_at "mem")); done) | fail) (by decide) (by decide) (by first | ((first | exact Mine.it0 _ _ | exact Mine.it1 _ _ _); done) | fail) ?_)) | ((with_reducible show wpAny _ _ (eval (Expr.Name _ _) (compEnvC _ _ _ _)) _ _ _); k_dflt (refine' lcf_free (by k_asm) (by rfl) (by first | ((k_mem); done) | fail) (by k_asm) ?_ (by rfl) (by rfl); k_whole)) | ((with_reducible show wpAny _ _ (subscriptTail _ _ (Value.ref _) (Value.int _ _)) _ _ _); k_dflt (refine' item_list (by first | ((exact News.isList (by k_asm) (by walk_at "mem")); done) | fail) (by decide) (by decide) (by first | ((first | exact Mine.it0 _ _ | exact Mine.it1 _ _ _); done) | fail) ?_)) | (((((k_here; (with_reducible show wpAny _ _ (subscriptTail _ (PySem.Expr.Slice _ _ none _) (Value.ref _) (Value.ref _)) _ _ _); k_dflt (refine' kmk_slice_ints (by k_asm) (by k_asm) (by first | ((kmk_list); done) | fail) (by first | ((kmk_part); done) | fail) (by first | ((kmk_part); done) | fail) (by first | ((l_ints); done) | fail) (by first | ((kmk_nums); done) | fail) (by first | ((kmk_len); done) | fail) ?_ (by with_unfolding_all rfl) (by first | ((kmk_pure); done) | fail) (by first | ((kmk_size); done) | fail)); intro _ _ _ _ _ l1 hI' hC' hL'; (try simp only [Int.reduceNeg, Int.neg_neg, Int.reduceToNat] at hI' hC' hL'); (try k_lt l1)); (try (revert l1; intro _))); (try (revert hI'; intro _))); (try (revert hC'; intro _))); (try (revert hL'; intro _))) | (k_here; (with_reducible show wpAny _ _ (call (Value.builtin "sum") [Value.ref _]) _ _ _); (with_unfolding_all refine' sumK (by with_unfolding_all rfl) (by k_asm) (by k_asm) (by first | ((is_list); done) | fail) (by assumption) ?_; k_whole); intro _ _ _ _ _; (try simp only [List.sum_cons, List.sum_nil])) | (k_here; k_dflt (refine' callWith_K (by k_asm) (by first | ((k_is); done) | fail) ?_; k_whole)) | ((with_reducible show wpAny _ _ (call (Value.type "range") [Value.int _ _]) _ _ _); k_dflt (refine' Mine.range1_own (by k_asm) (by k_asm) ?_); intro _ _ _ _ _ _ _ _ _) | (((with_reducible show wpAny _ _ (binaryOp _ (Value.ref _) (Value.ref _)) _ _ _); (rename Fr _ _ _ _ => hF'); (rename News _ _ _ _ => hN'); (refine Mine.add_lists' hF' hN' (by walk_at "mem") (by walk_at "mem") ?_ (by walk_at "len") (by walk_at "len")); clear hF' hN'; intro _ _ _ _ l1; (try k_lt l1)); (try (revert l1; intro _))) | walk1 | (dsimp only; walk1) | (leave1; walk_say "STEP leave1"; try dsimp only))))
  rename News base L _ _ => N7
  refine ne_fit (rd_strs (N7 _ (by walk_at "mem" : (lr2, _) ∈ _)).1 hwr2) (rd_strs (N7 _ (by walk_at "mem" : (t1, _) ∈ _)).1 hw1) (FitAll.list (fit_strs (k := 0) ok1)) (by decide) (by ktr_units) ?_
  clear hwu hwu2
  have hwl := hwr.length
  rw [List.length_take] at hwl
  have hwl2 := hwr2.length
  replace N7 := news_sub N7 (by walk_at "sub" : ∀ p ∈ [(D5, LCg.lst [.ref dT, .ref dT2]), (dT2, tupOf [.ref lr2, .str (whole tp1).2 tr2]), (lr2, listOf wr2.toArray nr2), (dT, tupOf [.ref lr, .str (whole tp0).2 tr]), (lr, listOf wr.toArray nr), (L + 1 + 1 + 1 + 1, o4), (L + 1 + 1 + 1, o3), (L + 1 + 1, o2), (L + 1, o1), (30, tabObj #[]), (79, tabObj ps2), (117, tabObj #[])], p ∈ _)
  rename Fr base L _ _ => F7
  clear off6 hv
  (repeat' (
  (fail_if_success (with_reducible show wpAny _ _ (call (Value.ref _) _ _) _ _ _));
  (fail_if_success (with_reducible show wpAny _ _ (eval (Expr.ListComp _ _ _ _) _) _ _ _));
  (fail_if_success (with_reducible show LCg.CompSrc _ _ _ _ _ _ _ _ _ _ _ _ _ _));
  (fail_if_success (with_reducible show wpAny _ _ (compareOp _ (Value.ref _) (Value.ref _)) _ _ _));
  (fail_if_success (with_reducible show wpAny _ _ (call (Value.builtin "sorted") _ _) _ _ _));
  (fail_if_success (with_reducible show wpAny _ _ (binaryOp _ (Value.ref _) (Value.ref _)) _ _ _));
  (fail_if_success (with_reducible show wpAny _ _ (exec (Stmt.Assign _ (Expr.ListComp _ _ _ _) _) _) _ _ _));
  (first | (k_unfold; (try dsimp only)) | (k_end; wrow_close) | ((with_reducible show wpAny _ _ (subscriptTail _ _ (Value.ref _) (Value.int _ _)) _ _ _); k_dflt (refine' item_tupleT (by first | ((exact News.isTup (by k_asm) (by walk_at "mem")); done) | fail) (by decide) (by decide) (by rfl) (by rfl) ?_)) | ((with_reducible show wpAny _ _ (subscriptTail _ _ (Value.ref _) (Value.int _ _)) _ _ _); k_dflt (refine' item_list (by first | ((exact News.isList (by k_asm) (by walk_at "mem")); done) | fail) (by decide) (by decide) (by first | ((first | exact Mine.it0 _ _ | exact Mine.it1 _ _ _); done) | fail) ?_)) | ((with_reducible show wpAny _ _ (eval (Expr.Name _ _) (compEnvC _ _ _ _)) _ _ _); k_dflt (refine' lcf_free (by k_asm) (by rfl) (by first | ((k_mem); done) | fail) (by k_asm) ?_ (by rfl) (by rfl); k_whole)) | ((with_reducible show wpAny _ _ (subscriptTail _ _ (Value.ref _) (Value.int _ _)) _ _ _); k_dflt (refine' item_list (by first | ((exact News.isList (by k_asm) (by walk_at "mem")); done) | fail) (by decide) (by decide) (by first | ((first | exact Mine.it0 _ _ | exact Mine.it1 _ _ _); done) | fail) ?_)) | (((((k_here; (with_reducible show wpAny _ _ (subscriptTail _ (PySem.Expr.Slice _ _ none _) (Value.ref _) (Value.ref _)) _ _ _); k_dflt (refine' kmk_slice_ints (by k_asm) (by k_asm) (by first | ((kmk_list); done) | fail) (by first | ((kmk_part); done) | fail) (by first | ((kmk_part); done) | fail) (by first | ((l_ints); done) | fail) (by first | ((kmk_nums); done) | fail) (by first | ((kmk_len); done) | fail) ?_ (by with_unfolding_all rfl) (by first | ((kmk_pure); done) | fail) (by first | ((kmk_size); done) | fail)); intro _ _ _ _ _ l1 hI' hC' hL'; (try simp only [Int.reduceNeg, Int.neg_neg, Int.reduceToNat] at hI' hC' hL'); (try k_lt l1)); (try (revert l1; intro _))); (try (revert hI'; intro _))); (try (revert hC'; intro _))); (try (revert hL'; intro _))) | (k_here; (with_reducible show wpAny _ _ (call (Value.builtin "sum") [Value.ref _]) _ _ _); (with_unfolding_all refine' sumK (by with_unfolding_all rfl) (by k_asm) (by k_asm) (by first | ((is_list); done) | fail) (by assumption) ?_; k_whole); intro _ _ _ _ _; (try simp only [List.sum_cons, List.sum_nil])) | (k_here; k_dflt (refine' callWith_K (by k_asm) (by first | ((k_is); done) | fail) ?_; k_whole)) | ((with_reducible show wpAny _ _ (call (Value.type "range") [Value.int _ _]) _ _ _); k_dflt (refine' Mine.range1_own (by k_asm) (by k_asm) ?_); intro _ _ _ _ _ _ _ _ _) | (((with_reducible show wpAny _ _ (binaryOp _ (Value.ref _) (Value.ref _)) _ _ _); (rename Fr _ _ _ _ => hF'); (rename News _ _ _ _ => hN'); (refine Mine.add_lists' hF' hN' (by walk_at "mem") (by walk_at "mem") ?_ (by walk_at "len") (by walk_at "len")); clear hF' hN'; intro _ _ _ _ l1; (try k_lt l1)); (try (revert l1; intro _))) | walk1 | (dsimp only; walk1) | (leave1; walk_say "STEP leave1"; try dsimp only))))
  (first | ((with_reducible show wpAny _ _ (subscriptTail _ _ (Value.ref _) (Value.int _ _)) _ _ _); k_dflt (refine' item_tupleT (by first | ((exact News.isTup (by k_asm) (by walk_at "mem")); done) | fail) (by decide) (by decide) (by rfl) (by rfl) ?_)) | ((with_reducible show wpAny _ _ (subscriptTail _ _ (Value.ref _) (Value.int _ _)) _ _ _); k_dflt (refine' item_list (by first | ((exact News.isList (by k_asm) (by walk_at "mem")); done) | fail) (by decide) (by decide) (by first | ((first | exact Mine.it0 _ _ | exact Mine.it1 _ _ _); done) | fail) ?_)) | ((with_reducible show wpAny _ _ (eval (Expr.Name _ _) (compEnvC _ _ _ _)) _ _ _); k_dflt (refine' lcf_free (by k_asm) (by rfl) (by first | ((k_mem); done) | fail) (by k_asm) ?_ (by rfl) (by rfl); k_whole)) | ((with_reducible show wpAny _ _ (subscriptTail _ _ (Value.ref _) (Value.int _ _)) _ _ _); k_dflt (refine' item_list (by first | ((exact News.isList (by k_asm) (by walk_at "mem")); done) | fail) (by decide) (by decide) (by first | ((first | exact Mine.it0 _ _ | exact Mine.it1 _ _ _); done) | fail) ?_)) | (((((k_here; (with_reducible show wpAny _ _ (subscriptTail _ (PySem.Expr.Slice _ _ none _) (Value.ref _) (Value.ref _)) _ _ _); k_dflt (refine' kmk_slice_ints (by k_asm) (by k_asm) (by first | ((kmk_list); done) | fail) (by first | ((kmk_part); done) | fail) (by first | ((kmk_part); done) | fail) (by first | ((l_ints); done) | fail) (by first | ((kmk_nums); done) | fail) (by first | ((kmk_len); done) | fail) ?_ (by with_unfolding_all rfl) (by first | ((kmk_pure); done) | fail) (by first | ((kmk_size); done) | fail)); intro _ _ _ _ _ l1 hI' hC' hL'; (try simp only [Int.reduceNeg, Int.neg_neg, Int.reduceToNat] at hI' hC' hL'); (try k_lt l1)); (try (revert l1; intro _))); (try (revert hI'; intro _))); (try (revert hC'; intro _))); (try (revert hL'; intro _))) | (k_here; (with_reducible show wpAny _ _ (call (Value.builtin "sum") [Value.ref _]) _ _ _); (with_unfolding_all refine' sumK (by with_unfolding_all rfl) (by k_asm) (by k_asm) (by first | ((is_list); done) | fail) (by assumption) ?_; k_whole); intro _ _ _ _ _; (try simp only [List.sum_cons, List.sum_nil])) | (k_here; k_dflt (refine' callWith_K (by k_asm) (by first | ((k_is); done) | fail) ?_; k_whole)) | ((with_reducible show wpAny _ _ (call (Value.type "range") [Value.int _ _]) _ _ _); k_dflt (refine' Mine.range1_own (by k_asm) (by k_asm) ?_); intro _ _ _ _ _ _ _ _ _) | (((with_reducible show wpAny _ _ (binaryOp _ (Value.ref _) (Value.ref _)) _ _ _); (rename Fr _ _ _ _ => hF'); (rename News _ _ _ _ => hN'); (refine Mine.add_lists' hF' hN' (by walk_at "mem") (by walk_at "mem") ?_ (by walk_at "len") (by walk_at "len")); clear hF' hN'; intro _ _ _ _ l1; (try k_lt l1)); (try (revert l1; intro _))) | walk_at "go1")
  (repeat' (
  (fail_if_success (with_reducible show wpAny _ _ (call (Value.ref _) _ _) _ _ _));
  (fail_if_success (with_reducible show wpAny _ _ (eval (Expr.ListComp _ _ _ _) _) _ _ _));
  (fail_if_success (with_reducible show LCg.CompSrc _ _ _ _ _ _ _ _ _ _ _ _ _ _));
  (fail_if_success (with_reducible show wpAny _ _ (compareOp _ (Value.ref _) (Value.ref _)) _ _ _));
  (fail_if_success (with_reducible show wpAny _ _ (call (Value.builtin "sorted") _ _) _ _ _));
  (fail_if_success (with_reducible show wpAny _ _ (binaryOp _ (Value.ref _) (Value.ref _)) _ _ _));
  (fail_if_success (with_reducible show wpAny _ _ (exec (Stmt.Assign _ (Expr.ListComp _ _ _ _) _) _) _ _ _));
  (first | (k_unfold; (try dsimp only)) | (k_end; wrow_close) | ((with_reducible show wpAny _ _ (subscriptTail _ _ (Value.ref _) (Value.int _ _)) _ _ _); k_dflt (refine' item_tupleT (by first | ((exact News.isTup (by k_asm) (by walk_at "mem")); done) | fail) (by decide) (by decide) (by rfl) (by rfl) ?_)) | ((with_reducible show wpAny _ _ (subscriptTail _ _ (Value.ref _) (Value.int _ _)) _ _ _); k_dflt (refine' item_list (by first | ((exact News.isList (by k_asm) (by walk_at "mem")); done) | fail) (by decide) (by decide) (by first | ((first | exact Mine.it0 _ _ | exact Mine.it1 _ _ _); done) | fail) ?_)) | ((with_reducible show wpAny _ _ (eval (Expr.Name _ _) (compEnvC _ _ _ _)) _ _ _); k_dflt (refine' lcf_free (by k_asm) (by rfl) (by first | ((k_mem); done) | fail) (by k_asm) ?_ (by rfl) (by rfl); k_whole)) | ((with_reducible show wpAny _ _ (subscriptTail _ _ (Value.ref _) (Value.int _ _)) _ _ _); k_dflt (refine' item_list (by first | ((exact News.isList (by k_asm) (by walk_at "mem")); done) | fail) (by decide) (by decide) (by first | ((first | exact Mine.it0 _ _ | exact Mine.it1 _ _ _); done) | fail) ?_)) | (((((k_here; (with_reducible show wpAny _ _ (subscriptTail _ (PySem.Expr.Slice _ _ none _) (Value.ref _) (Value.ref _)) _ _ _); k_dflt (refine' kmk_slice_ints (by k_asm) (by k_asm) (by first | ((kmk_list); done) | fail) (by first | ((kmk_part); done) | fail) (by first | ((kmk_part); done) | fail) (by first | ((l_ints); done) | fail) (by first | ((kmk_nums); done) | fail) (by first | ((kmk_len); done) | fail) ?_ (by with_unfolding_all rfl) (by first | ((kmk_pure); done) | fail) (by first | ((kmk_size); done) | fail)); intro _ _ _ _ _ l1 hI' hC' hL'; (try simp only [Int.reduceNeg, Int.neg_neg, Int.reduceToNat] at hI' hC' hL'); (try k_lt l1)); (try (revert l1; intro _))); (try (revert hI'; intro _))); (try (revert hC'; intro _))); (try (revert hL'; intro _))) | (k_here; (with_reducible show wpAny _ _ (call (Value.builtin "sum") [Value.ref _]) _ _ _); (with_unfolding_all refine' sumK (by with_unfolding_all rfl) (by k_asm) (by k_asm) (by first | ((is_list); done) | fail) (by assumption) ?_; k_whole); intro _ _ _ _ _; (try simp only [List.sum_cons, List.sum_nil])) | (k_here; k_dflt (refine' callWith_K (by k_asm) (by first | ((k_is); done) | fail) ?_; k_whole)) | ((with_reducible show wpAny _ _ (call (Value.type "range") [Value.int _ _]) _ _ _); k_dflt (refine' Mine.range1_own (by k_asm) (by k_asm) ?_); intro _ _ _ _ _ _ _ _ _) | (((with_reducible show wpAny _ _ (binaryOp _ (Value.ref _) (Value.ref _)) _ _ _); (rename Fr _ _ _ _ => hF'); (rename News _ _ _ _ => hN'); (refine Mine.add_lists' hF' hN' (by walk_at "mem") (by walk_at "mem") ?_ (by walk_at "len") (by walk_at "len")); clear hF' hN'; intro _ _ _ _ l1; (try k_lt l1)); (try (revert l1; intro _))) | walk1 | (dsimp only; walk1) | (leave1; walk_say "STEP leave1"; try dsimp only))))
  rename_i DS hS FS NS lS fL cL ocL vsL tL ctL h9 tk9 F8 N8 dL1 dL2 lL1 lL2
  refine wpAny_call ?_
  refine code_weak (A := xA0) rfl (Nat.ble_eq_true_of_le (by show (302 : Nat) ≤ 550; decide)) (Nat.ble_eq_true_of_le (by show (7 : Nat) ≤ 1000; decide)) rfl rfl ?_
  refine' xc_ctk F8 N8 KN.big KN T1 fL ?U ?_
  case U => k_updF
  intro K cell own9 ps9 h10 tk10 X9 O9
  have F9 := X9.fr
  have N9 := X9.nw
  have low9 := X9.low
  clear X9 F8 N8 FS NS
  (repeat' (
  (fail_if_success (with_reducible show wpAny _ _ (call (Value.ref _) _ _) _ _ _));
  (fail_if_success (with_reducible show wpAny _ _ (eval (Expr.ListComp _ _ _ _) _) _ _ _));
  (fail_if_success (with_reducible show LCg.CompSrc _ _ _ _ _ _ _ _ _ _ _ _ _ _));
  (fail_if_success (with_reducible show wpAny _ _ (compareOp _ (Value.ref _) (Value.ref _)) _ _ _));
  (fail_if_success (with_reducible show wpAny _ _ (call (Value.builtin "sorted") _ _) _ _ _));
  (fail_if_success (with_reducible show wpAny _ _ (binaryOp _ (Value.ref _) (Value.ref _)) _ _ _));
  (fail_if_success (with_reducible show wpAny _ _ (exec (Stmt.Assign _ (Expr.ListComp _ _ _ _) _) _) _ _ _));
  (first | (k_unfold; (try dsimp only)) | (k_end; wrow_close) | ((with_reducible show wpAny _ _ (subscriptTail _ _ (Value.ref _) (Value.int _ _)) _ _ _); k_dflt (refine' item_tupleT (by first | ((exact News.isTup (by k_asm) (by walk_at "mem")); done) | fail) (by decide) (by decide) (by rfl) (by rfl) ?_)) | ((with_reducible show wpAny _ _ (subscriptTail _ _ (Value.ref _) (Value.int _ _)) _ _ _); k_dflt (refine' item_list (by first | ((exact News.isList (by k_asm) (by walk_at "mem")); done) | fail) (by decide) (by decide) (by first | ((first | exact Mine.it0 _ _ | exact Mine.it1 _ _ _); done) | fail) ?_)) | ((with_reducible show wpAny _ _ (eval (Expr.Name _ _) (compEnvC _ _ _ _)) _ _ _); k_dflt (refine' lcf_free (by k_asm) (by rfl) (by first | ((k_mem); done) | fail) (by k_asm) ?_ (by rfl) (by rfl); k_whole)) | ((with_reducible show wpAny _ _ (subscriptTail _ _ (Value.ref _) (Value.int _ _)) _ _ _); k_dflt (refine' item_list (by first | ((exact News.isList (by k_asm) (by walk_at "mem")); done) | fail) (by decide) (by decide) (by first | ((first | exact Mine.it0 _ _ | exact Mine.it1 _ _ _); done) | fail) ?_)) | (((((k_here; (with_reducible show wpAny _ _ (subscriptTail _ (PySem.Expr.Slice _ _ none _) (Value.ref _) (Value.ref _)) _ _ _); k_dflt (refine' kmk_slice_ints (by k_asm) (by k_asm) (by first | ((kmk_list); done) | fail) (by first | ((kmk_part); done) | fail) (by first | ((kmk_part); done) | fail) (by first | ((l_ints); done) | fail) (by first | ((kmk_nums); done) | fail) (by first | ((kmk_len); done) | fail) ?_ (by with_unfolding_all rfl) (by first | ((kmk_pure); done) | fail) (by first | ((kmk_size); done) | fail)); intro _ _ _ _ _ l1 hI' hC' hL'; (try simp only [Int.reduceNeg, Int.neg_neg, Int.reduceToNat] at hI' hC' hL'); (try k_lt l1)); (try (revert l1; intro _))); (try (revert hI'; intro _))); (try (revert hC'; intro _))); (try (revert hL'; intro _))) | (k_here; (with_reducible show wpAny _ _ (call (Value.builtin "sum") [Value.ref _]) _ _ _); (with_unfolding_all refine' sumK (by with_unfolding_all rfl) (by k_asm) (by k_asm) (by first | ((is_list); done) | fail) (by assumption) ?_; k_whole); intro _ _ _ _ _; (try simp only [List.sum_cons, List.sum_nil])) | (k_here; k_dflt (refine' callWith_K (by k_asm) (by first | ((k_is); done) | fail) ?_; k_whole)) | ((with_reducible show wpAny _ _ (call (Value.type "range") [Value.int _ _]) _ _ _); k_dflt (refine' Mine.range1_own (by k_asm) (by k_asm) ?_); intro _ _ _ _ _ _ _ _ _) | (((with_reducible show wpAny _ _ (binaryOp _ (Value.ref _) (Value.ref _)) _ _ _); (rename Fr _ _ _ _ => hF'); (rename News _ _ _ _ => hN'); (refine Mine.add_lists' hF' hN' (by walk_at "mem") (by walk_at "mem") ?_ (by walk_at "len") (by walk_at "len")); clear hF' hN'; intro _ _ _ _ l1; (try k_lt l1)); (try (revert l1; intro _))) | walk1 | (dsimp only; walk1) | (leave1; walk_say "STEP leave1"; try dsimp only))))
  show wpAny _ _ (call (.builtin "sorted") [.ref DS] [(Str.ofString "key", .ref (K + 121))]) _ _ _
  walk_say "A"
  have hlen : ∀ z ∈ ts0.take j0 ++ ts1, z.length ≤ 3 := fun z hz => by
    rcases List.mem_append.mp hz with hz | hz
    · exact piece_len (p0 z (List.mem_of_mem_take hz))
    · exact piece_len (p1 z hz)
  have htl : (ts0.take j0).length ≤ 18 := by rw [List.length_take]; walk_at "o"
  refine c_order _ _ _ _ _ _ _ _ [] callerA base base L _ _ _ _ _ B1 F9 KX Cd1 T1 rfl (by decide) (by decide) ?hd2 ?hu2 KN N9 K cell fL cL (O9.sub fun p hp => List.mem_append_left _ hp) _ _ _ _ ocL vsL tL (List.mem_append_right _ (.head _)) (List.mem_append_right _ (.tail _ (.head _))) dL1 dL2 DS _ _ _ (List.mem_append_right _ (by walk_at "mem")) (hwr.append' hwr2) (by rw [List.length_append]; walk_at "o") (by rw [List.length_append]; walk_at "o") hlen ?_
  case hd2 => show (302 : Nat) ≤ 500; decide
  case hu2 => show (7 : Nat) ≤ 900; decide
  walk_say "B"
  intro DO nO vo own10 h11 tk11 F10 N10 hown10 hlow10 hvo
  clear F9 N9 low9
  (first | ((with_reducible show wpAny _ _ (subscriptTail _ _ (Value.ref _) (Value.int _ _)) _ _ _); k_dflt (refine' item_tupleT (by first | ((exact News.isTup (by k_asm) (by walk_at "mem")); done) | fail) (by decide) (by decide) (by rfl) (by rfl) ?_)) | ((with_reducible show wpAny _ _ (subscriptTail _ _ (Value.ref _) (Value.int _ _)) _ _ _); k_dflt (refine' item_list (by first | ((exact News.isList (by k_asm) (by walk_at "mem")); done) | fail) (by decide) (by decide) (by first | ((first | exact Mine.it0 _ _ | exact Mine.it1 _ _ _); done) | fail) ?_)) | ((with_reducible show wpAny _ _ (eval (Expr.Name _ _) (compEnvC _ _ _ _)) _ _ _); k_dflt (refine' lcf_free (by k_asm) (by rfl) (by first | ((k_mem); done) | fail) (by k_asm) ?_ (by rfl) (by rfl); k_whole)) | ((with_reducible show wpAny _ _ (subscriptTail _ _ (Value.ref _) (Value.int _ _)) _ _ _); k_dflt (refine' item_list (by first | ((exact News.isList (by k_asm) (by walk_at "mem")); done) | fail) (by decide) (by decide) (by first | ((first | exact Mine.it0 _ _ | exact Mine.it1 _ _ _); done) | fail) ?_)) | (((((k_here; (with_reducible show wpAny _ _ (subscriptTail _ (PySem.Expr.Slice _ _ none _) (Value.ref _) (Value.ref _)) _ _ _); k_dflt (refine' kmk_slice_ints (by k_asm) (by k_asm) (by first | ((kmk_list); done) | fail) (by first | ((kmk_part); done) | fail) (by first | ((kmk_part); done) | fail) (by first | ((l_ints); done) | fail) (by first | ((kmk_nums); done) | fail) (by first | ((kmk_len); done) | fail) ?_ (by with_unfolding_all rfl) (by first | ((kmk_pure); done) | fail) (by first | ((kmk_size); done) | fail)); intro _ _ _ _ _ l1 hI' hC' hL'; (try simp only [Int.reduceNeg, Int.neg_neg, Int.reduceToNat] at hI' hC' hL'); (try k_lt l1)); (try (revert l1; intro _))); (try (revert hI'; intro _))); (try (revert hC'; intro _))); (try (revert hL'; intro _))) | (k_here; (with_reducible show wpAny _ _ (call (Value.builtin "sum") [Value.ref _]) _ _ _); (with_unfolding_all refine' sumK (by with_unfolding_all rfl) (by k_asm) (by k_asm) (by first | ((is_list); done) | fail) (by assumption) ?_; k_whole); intro _ _ _ _ _; (try simp only [List.sum_cons, List.sum_nil])) | (k_here; k_dflt (refine' callWith_K (by k_asm) (by first | ((k_is); done) | fail) ?_; k_whole)) | ((with_reducible show wpAny _ _ (call (Value.type "range") [Value.int _ _]) _ _ _); k_dflt (refine' Mine.range1_own (by k_asm) (by k_asm) ?_); intro _ _ _ _ _ _ _ _ _) | (((with_reducible show wpAny _ _ (binaryOp _ (Value.ref _) (Value.ref _)) _ _ _); (rename Fr _ _ _ _ => hF'); (rename News _ _ _ _ => hN'); (refine Mine.add_lists' hF' hN' (by walk_at "mem") (by walk_at "mem") ?_ (by walk_at "len") (by walk_at "len")); clear hF' hN'; intro _ _ _ _ l1; (try k_lt l1)); (try (revert l1; intro _))) | walk_at "go1")
  rename Fr base L _ _ => F11
  rename News base L _ _ => N11
  rename (Obj.data _ = Data.cell (some (Value.ref lr))) => d3
  rename (Obj.data _ = Data.cell (some (Value.ref lr2))) => d4
  refine' c_law3 base L fa _ _ _ _ _ _ B1 KX T1 hL1 DO lr lr2 vo wr wr2 nO nr nr2 ps9 ps2 _ (ts0.take j0) ts1 F11 rfl (news_sub N11 ?sub) d3 d4 hwr hwr2 hvo ok0 ok1 htl z1.2 hlen ?fin
  case sub =>
    refine List.forall_mem_cons.mpr ⟨List.mem_append_right _ (.head _), fun p hp => List.mem_append_right _ (.tail _ (List.mem_append_right _ ?_))⟩
    revert p
    walk_at "sub"
  case fin => exact hret
theorem off1_mem {D : Addr} : ∀ {l : List (Addr × Obj)}, LCg.Off1 D l → ∀ p, p ∈ l → (@Ne Nat D p.1)
  | [], _, _, h => (List.not_mem_nil h).elim
  | _ :: _, x, p, h => (List.mem_cons.mp h).elim (fun e => by rw [e]; exact Ne.symm x.1) (fun h => off1_mem x.2 p h)
theorem c_law {w : World} {p : Program} {loose : List Str} {mean : ExcName → Option Value} {mg mb : Str → Option Value} (base h1 : Heap) (L fa : Addr) (m : Str → Option Value) (o1 o2 o3 o4 : Obj) (s : Shared) (la : Addr) (vs : List Value) (ns : List Int) (Q : Flow → Shared → Prop) (E : Value → Shared → Prop)
    (B1 : Below callerA base [] base) (F1 : Fr base L s.heap m) (hm : m (Str.ofString "script") = some (.ref la)) (KX : (hd.heap_1 w.params).In base) (T1 : Top p loose mean mg mb base) (Cd1 : CodeHd base 34 30) (Cd2 : CodeHd base 83 79) (Cd3 : CodeHd base 119 117) (KN : KNo w.params base) (hb0 : 121 ≤ base.objs.size) (hL0 : base.objs.size ≤ L)
    (N1 : News base L s.heap [(L + 1 + 1 + 1 + 1, o4), (L + 1 + 1 + 1, o3), (L + 1 + 1, o2), (L + 1, o1), (30, tabObj #[]), (79, tabObj #[]), (117, tabObj #[])]) (ho1 : o1.data = .cell none) (ho2 : o2.data = .cell none) (ho3 : o3.data = .cell none) (ho4 : o4.data = .cell none)
    (hl : base.IsList la vs.toArray) (hI : IntsAre vs ns) (hn : ns.length ≤ 63)
    (hret : ∀ h' tk' ps1 ps2 ps3 nx m', Fr base L h' m' → News base L h' ((30, tabObj ps1) :: (79, tabObj ps2) :: (117, tabObj ps3) :: nx) → Q (.ret (.bool true)) { s with heap := h', toks := tk' }) :
    wpAny (model Challenge.rw_il0109_01.row.prog w) (callerA.deeper (envOfC (Str.ofString "law") (lawFn w.params).2 L fa (.ref 119))) (execs (lawFn w.params).1 (envOfC (Str.ofString "law") (lawFn w.params).2 L fa (.ref 119))) Q E s := by
  repeat (conv in (lawFn _) => whnf)
  try dsimp only
  revert KX; k_fill; intro KX
  have hvl := hI.length
  have hL1 : 121 ≤ L := Nat.le_trans hb0 hL0
  rw [mset hm] at F1
  (repeat' (
  (fail_if_success (with_reducible show wpAny _ _ (call (Value.ref _) _ _) _ _ _));
  (fail_if_success (with_reducible show wpAny _ _ (eval (Expr.ListComp _ _ _ _) _) _ _ _));
  (fail_if_success (with_reducible show LCg.CompSrc _ _ _ _ _ _ _ _ _ _ _ _ _ _));
  (fail_if_success (with_reducible show wpAny _ _ (compareOp _ (Value.ref _) (Value.ref _)) _ _ _));
  (fail_if_success (with_reducible show wpAny _ _ (call (Value.builtin "sorted") _ _) _ _ _));
  (fail_if_success (with_reducible show wpAny _ _ (binaryOp _ (Value.ref _) (Value.ref _)) _ _ _));
  (fail_if_success (with_reducible show wpAny _ _ (exec (Stmt.Assign _ (Expr.ListComp _ _ _ _) _) _) _ _ _));
  (first | (k_unfold; (try dsimp only)) | (k_end; wrow_close) | ((with_reducible show wpAny _ _ (subscriptTail _ _ (Value.ref _) (Value.int _ _)) _ _ _); k_dflt (refine' item_tupleT (by first | ((exact News.isTup (by k_asm) (by walk_at "mem")); done) | fail) (by decide) (by decide) (by rfl) (by rfl) ?_)) | ((with_reducible show wpAny _ _ (subscriptTail _ _ (Value.ref _) (Value.int _ _)) _ _ _); k_dflt (refine' item_list (by first | ((exact News.isList (by k_asm) (by walk_at "mem")); done) | fail) (by decide) (by decide) (by first | ((first | exact Mine.it0 _ _ | exact Mine.it1 _ _ _); done) | fail) ?_)) | ((with_reducible show wpAny _ _ (eval (Expr.Name _ _) (compEnvC _ _ _ _)) _ _ _); k_dflt (refine' lcf_free (by k_asm) (by rfl) (by first | ((k_mem); done) | fail) (by k_asm) ?_ (by rfl) (by rfl); k_whole)) | ((with_reducible show wpAny _ _ (subscriptTail _ _ (Value.ref _) (Value.int _ _)) _ _ _); k_dflt (refine' item_list (by first | ((exact News.isList (by k_asm) (by walk_at "mem")); done) | fail) (by decide) (by decide) (by first | ((first | exact Mine.it0 _ _ | exact Mine.it1 _ _ _); done) | fail) ?_)) | (((((k_here; (with_reducible show wpAny _ _ (subscriptTail _ (PySem.Expr.Slice _ _ none _) (Value.ref _) (Value.ref _)) _ _ _); k_dflt (refine' kmk_slice_ints (by k_asm) (by k_asm) (by first | ((kmk_list); done) | fail) (by first | ((kmk_part); done) | fail) (by first | ((kmk_part); done) | fail) (by first | ((l_ints); done) | fail) (by first | ((kmk_nums); done) | fail) (by first | ((kmk_len); done) | fail) ?_ (by with_unfolding_all rfl) (by first | ((kmk_pure); done) | fail) (by first | ((kmk_size); done) | fail)); intro _ _ _ _ _ l1 hI' hC' hL'; (try simp only [Int.reduceNeg, Int.neg_neg, Int.reduceToNat] at hI' hC' hL'); (try k_lt l1)); (try (revert l1; intro _))); (try (revert hI'; intro _))); (try (revert hC'; intro _))); (try (revert hL'; intro _))) | (k_here; (with_reducible show wpAny _ _ (call (Value.builtin "sum") [Value.ref _]) _ _ _); (with_unfolding_all refine' sumK (by with_unfolding_all rfl) (by k_asm) (by k_asm) (by first | ((is_list); done) | fail) (by assumption) ?_; k_whole); intro _ _ _ _ _; (try simp only [List.sum_cons, List.sum_nil])) | (k_here; k_dflt (refine' callWith_K (by k_asm) (by first | ((k_is); done) | fail) ?_; k_whole)) | ((with_reducible show wpAny _ _ (call (Value.type "range") [Value.int _ _]) _ _ _); k_dflt (refine' Mine.range1_own (by k_asm) (by k_asm) ?_); intro _ _ _ _ _ _ _ _ _) | ((with_reducible show wpAny _ _ (call (Value.builtin "len") [Value.ref _]) _ _ _); k_dflt (refine' len_list (by first | ((exact News.isList (by k_asm) (by walk_at "mem")); done) | fail) (by first | ((walk_at "len"); done) | fail) ?_); (try simp only [List.size_toArray])) | walk1 | (dsimp only; walk1) | (leave1; walk_say "STEP leave1"; try dsimp only))))
  refine c_texts _ _ _ _ _ _ _ _ [] callerA base base L _ _ _ _ _ B1 F1 KX T1 rfl (by decide) (by decide) N1 la vs ns hl hI (by walk_at "o") ?_
  intro D1 t0 t1 ws0 ws1 n0 n1 h2 tk2 F2 N2 hw0 hw1 lt0 lt1 lt2
  have e0 := nat_lt (lt0 _ (.head _))
  have e1 := nat_lt lt1
  have e2 := nat_lt lt2
  clear F1 N1 lt0 lt1 lt2
  (repeat' (
  (fail_if_success (with_reducible show wpAny _ _ (call (Value.ref _) _ _) _ _ _));
  (fail_if_success (with_reducible show wpAny _ _ (eval (Expr.ListComp _ _ _ _) _) _ _ _));
  (fail_if_success (with_reducible show LCg.CompSrc _ _ _ _ _ _ _ _ _ _ _ _ _ _));
  (fail_if_success (with_reducible show wpAny _ _ (compareOp _ (Value.ref _) (Value.ref _)) _ _ _));
  (fail_if_success (with_reducible show wpAny _ _ (call (Value.builtin "sorted") _ _) _ _ _));
  (fail_if_success (with_reducible show wpAny _ _ (binaryOp _ (Value.ref _) (Value.ref _)) _ _ _));
  (fail_if_success (with_reducible show wpAny _ _ (exec (Stmt.Assign _ (Expr.ListComp _ _ _ _) _) _) _ _ _));
  (first | (k_unfold; (try dsimp only)) | (k_end; wrow_close) | ((with_reducible show wpAny _ _ (subscriptTail _ _ (Value.ref _) (Value.int _ _)) _ _ _); k_dflt (refine' item_tupleT (by first | ((exact News.isTup (by k_asm) (by walk_at "mem")); done) | fail) (by decide) (by decide) (by rfl) (by rfl) ?_)) | ((with_reducible show wpAny _ _ (subscriptTail _ _ (Value.ref _) (Value.int _ _)) _ _ _); k_dflt (refine' item_list (by first | ((exact News.isList (by k_asm) (by walk_at "mem")); done) | fail) (by decide) (by decide) (by first | ((first | exact Mine.it0 _ _ | exact Mine.it1 _ _ _); done) | fail) ?_)) | ((with_reducible show wpAny _ _ (eval (Expr.Name _ _) (compEnvC _ _ _ _)) _ _ _); k_dflt (refine' lcf_free (by k_asm) (by rfl) (by first | ((k_mem); done) | fail) (by k_asm) ?_ (by rfl) (by rfl); k_whole)) | ((with_reducible show wpAny _ _ (subscriptTail _ _ (Value.ref _) (Value.int _ _)) _ _ _); k_dflt (refine' item_list (by first | ((exact News.isList (by k_asm) (by walk_at "mem")); done) | fail) (by decide) (by decide) (by first | ((first | exact Mine.it0 _ _ | exact Mine.it1 _ _ _); done) | fail) ?_)) | (((((k_here; (with_reducible show wpAny _ _ (subscriptTail _ (PySem.Expr.Slice _ _ none _) (Value.ref _) (Value.ref _)) _ _ _); k_dflt (refine' kmk_slice_ints (by k_asm) (by k_asm) (by first | ((kmk_list); done) | fail) (by first | ((kmk_part); done) | fail) (by first | ((kmk_part); done) | fail) (by first | ((l_ints); done) | fail) (by first | ((kmk_nums); done) | fail) (by first | ((kmk_len); done) | fail) ?_ (by with_unfolding_all rfl) (by first | ((kmk_pure); done) | fail) (by first | ((kmk_size); done) | fail)); intro _ _ _ _ _ l1 hI' hC' hL'; (try simp only [Int.reduceNeg, Int.neg_neg, Int.reduceToNat] at hI' hC' hL'); (try k_lt l1)); (try (revert l1; intro _))); (try (revert hI'; intro _))); (try (revert hC'; intro _))); (try (revert hL'; intro _))) | (k_here; (with_reducible show wpAny _ _ (call (Value.builtin "sum") [Value.ref _]) _ _ _); (with_unfolding_all refine' sumK (by with_unfolding_all rfl) (by k_asm) (by k_asm) (by first | ((is_list); done) | fail) (by assumption) ?_; k_whole); intro _ _ _ _ _; (try simp only [List.sum_cons, List.sum_nil])) | (k_here; k_dflt (refine' callWith_K (by k_asm) (by first | ((k_is); done) | fail) ?_; k_whole)) | ((with_reducible show wpAny _ _ (call (Value.type "range") [Value.int _ _]) _ _ _); k_dflt (refine' Mine.range1_own (by k_asm) (by k_asm) ?_); intro _ _ _ _ _ _ _ _ _) | ((with_reducible show wpAny _ _ (call (Value.builtin "len") [Value.ref _]) _ _ _); k_dflt (refine' len_list (by first | ((exact News.isList (by k_asm) (by walk_at "mem")); done) | fail) (by first | ((walk_at "len"); done) | fail) ?_); (try simp only [List.size_toArray])) | walk1 | (dsimp only; walk1) | (leave1; walk_say "STEP leave1"; try dsimp only))))
  rename Fr base L _ _ => F3
  rename News base L _ _ => N3
  have hwl0 := hw0.length
  have hwl1 := hw1.length
  have q0 := lens0 ns
  have q1 := lens1 ns
  have p0 : ∀ x ∈ texts0 (ns.take 10 ++ consts), x ∈ piecesL := fun x hx => mem0 hx
  have p1 : ∀ x ∈ texts1 (ns.take 10 ++ consts), x ∈ piecesL := fun x hx => mem1 hx
  generalize texts0 (ns.take 10 ++ consts) = ts0 at *
  generalize texts1 (ns.take 10 ++ consts) = ts1 at *
  have q2 : (∀ x ∈ ts0, x.length ≤ 3) ∧ (∀ x ∈ ts1, x.length ≤ 3) := ⟨fun x hx => piece_len (p0 x hx), fun x hx => piece_len (p1 x hx)⟩
  have q3 := tapeAll_le ts0
  have q4 := fmod4 (ns.take 10).sum
  generalize (ns.take 10).sum.fmod 4 = k0 at *
  refine c_tape _ _ _ _ _ _ _ _ [] callerA base base L _ _ _ _ _ B1 F3 KX T1 rfl (by decide) (by decide) N3 t0 ws0 _ _ _ _ (by walk_at "mem") hw0 (by walk_at "o") q2.1 ?_ ?_ ?_
  · walk_at "o"
  · walk_at "o"
  intro D2 ws2 n2 h3 tk3 F4 N4 hw2 lt3
  rename_i D0 _ _ _ l0 _ _ _ _ _ _
  have e3 := nat_lt l0.1
  have e4 := nat_lt (lt3 _ (.head _))
  clear F3 N3 lt3 l0
  (repeat' (
  (fail_if_success (with_reducible show wpAny _ _ (call (Value.ref _) _ _) _ _ _));
  (fail_if_success (with_reducible show wpAny _ _ (eval (Expr.ListComp _ _ _ _) _) _ _ _));
  (fail_if_success (with_reducible show LCg.CompSrc _ _ _ _ _ _ _ _ _ _ _ _ _ _));
  (fail_if_success (with_reducible show wpAny _ _ (compareOp _ (Value.ref _) (Value.ref _)) _ _ _));
  (fail_if_success (with_reducible show wpAny _ _ (call (Value.builtin "sorted") _ _) _ _ _));
  (fail_if_success (with_reducible show wpAny _ _ (binaryOp _ (Value.ref _) (Value.ref _)) _ _ _));
  (fail_if_success (with_reducible show wpAny _ _ (exec (Stmt.Assign _ (Expr.ListComp _ _ _ _) _) _) _ _ _));
  (first | (k_unfold; (try dsimp only)) | (k_end; wrow_close) | ((with_reducible show wpAny _ _ (subscriptTail _ _ (Value.ref _) (Value.int _ _)) _ _ _); k_dflt (refine' item_tupleT (by first | ((exact News.isTup (by k_asm) (by walk_at "mem")); done) | fail) (by decide) (by decide) (by rfl) (by rfl) ?_)) | ((with_reducible show wpAny _ _ (subscriptTail _ _ (Value.ref _) (Value.int _ _)) _ _ _); k_dflt (refine' item_list (by first | ((exact News.isList (by k_asm) (by walk_at "mem")); done) | fail) (by decide) (by decide) (by first | ((first | exact Mine.it0 _ _ | exact Mine.it1 _ _ _); done) | fail) ?_)) | ((with_reducible show wpAny _ _ (eval (Expr.Name _ _) (compEnvC _ _ _ _)) _ _ _); k_dflt (refine' lcf_free (by k_asm) (by rfl) (by first | ((k_mem); done) | fail) (by k_asm) ?_ (by rfl) (by rfl); k_whole)) | ((with_reducible show wpAny _ _ (subscriptTail _ _ (Value.ref _) (Value.int _ _)) _ _ _); k_dflt (refine' item_list (by first | ((exact News.isList (by k_asm) (by walk_at "mem")); done) | fail) (by decide) (by decide) (by first | ((first | exact Mine.it0 _ _ | exact Mine.it1 _ _ _); done) | fail) ?_)) | (((((k_here; (with_reducible show wpAny _ _ (subscriptTail _ (PySem.Expr.Slice _ _ none _) (Value.ref _) (Value.ref _)) _ _ _); k_dflt (refine' kmk_slice_ints (by k_asm) (by k_asm) (by first | ((kmk_list); done) | fail) (by first | ((kmk_part); done) | fail) (by first | ((kmk_part); done) | fail) (by first | ((l_ints); done) | fail) (by first | ((kmk_nums); done) | fail) (by first | ((kmk_len); done) | fail) ?_ (by with_unfolding_all rfl) (by first | ((kmk_pure); done) | fail) (by first | ((kmk_size); done) | fail)); intro _ _ _ _ _ l1 hI' hC' hL'; (try simp only [Int.reduceNeg, Int.neg_neg, Int.reduceToNat] at hI' hC' hL'); (try k_lt l1)); (try (revert l1; intro _))); (try (revert hI'; intro _))); (try (revert hC'; intro _))); (try (revert hL'; intro _))) | (k_here; (with_reducible show wpAny _ _ (call (Value.builtin "sum") [Value.ref _]) _ _ _); (with_unfolding_all refine' sumK (by with_unfolding_all rfl) (by k_asm) (by k_asm) (by first | ((is_list); done) | fail) (by assumption) ?_; k_whole); intro _ _ _ _ _; (try simp only [List.sum_cons, List.sum_nil])) | (k_here; k_dflt (refine' callWith_K (by k_asm) (by first | ((k_is); done) | fail) ?_; k_whole)) | ((with_reducible show wpAny _ _ (call (Value.type "range") [Value.int _ _]) _ _ _); k_dflt (refine' Mine.range1_own (by k_asm) (by k_asm) ?_); intro _ _ _ _ _ _ _ _ _) | ((with_reducible show wpAny _ _ (call (Value.builtin "len") [Value.ref _]) _ _ _); k_dflt (refine' len_list (by first | ((exact News.isList (by k_asm) (by walk_at "mem")); done) | fail) (by first | ((walk_at "len"); done) | fail) ?_); (try simp only [List.size_toArray])) | walk1 | (dsimp only; walk1) | (leave1; walk_say "STEP leave1"; try dsimp only))))
  rename Fr base L _ _ => F3
  rename News base L _ _ => N3
  refine c_tape _ _ _ _ _ _ _ _ [] callerA base base L _ _ _ _ _ B1 F3 KX T1 rfl (by decide) (by decide) N3 t1 ws1 _ _ _ _ (by walk_at "mem") hw1 (by walk_at "o") q2.2 (by decide) (Int.natCast_nonneg _) ?_
  intro D3 ws3 n3 h4 tk4 F4 N4 hw3 lt3
  have e5 := nat_lt (lt3 _ (.head _))
  obtain ⟨tp0, htp0⟩ : ∃ t, t = List.take ((tapeAll ts0).length - k0.toNat) (tapeAll ts0) := ⟨_, rfl⟩
  obtain ⟨tp1, htp1⟩ : ∃ t, t = List.take ((tapeAll ts1).length - Int.toNat 0) (tapeAll ts1) := ⟨_, rfl⟩
  rw [← htp0] at hw2
  rw [← htp1] at hw3
  obtain ⟨b0, c0, r0, j0, j0l, one0, _⟩ := tape_facts p0 (by walk_at "o") _ htp0
  obtain ⟨b1, c1, r1, j1, _, _, two0⟩ := tape_facts p1 (by walk_at "o") _ htp1
  replace two0 := two0 (by simp)
  clear htp0 htp1 q3 q4
  clear F3 N3 lt3
  (repeat' (
  (fail_if_success (with_reducible show wpAny _ _ (call (Value.ref _) _ _) _ _ _));
  (fail_if_success (with_reducible show wpAny _ _ (eval (Expr.ListComp _ _ _ _) _) _ _ _));
  (fail_if_success (with_reducible show LCg.CompSrc _ _ _ _ _ _ _ _ _ _ _ _ _ _));
  (fail_if_success (with_reducible show wpAny _ _ (compareOp _ (Value.ref _) (Value.ref _)) _ _ _));
  (fail_if_success (with_reducible show wpAny _ _ (call (Value.builtin "sorted") _ _) _ _ _));
  (fail_if_success (with_reducible show wpAny _ _ (binaryOp _ (Value.ref _) (Value.ref _)) _ _ _));
  (fail_if_success (with_reducible show wpAny _ _ (exec (Stmt.Assign _ (Expr.ListComp _ _ _ _) _) _) _ _ _));
  (first | (k_unfold; (try dsimp only)) | (k_end; wrow_close) | ((with_reducible show wpAny _ _ (subscriptTail _ _ (Value.ref _) (Value.int _ _)) _ _ _); k_dflt (refine' item_tupleT (by first | ((exact News.isTup (by k_asm) (by walk_at "mem")); done) | fail) (by decide) (by decide) (by rfl) (by rfl) ?_)) | ((with_reducible show wpAny _ _ (subscriptTail _ _ (Value.ref _) (Value.int _ _)) _ _ _); k_dflt (refine' item_list (by first | ((exact News.isList (by k_asm) (by walk_at "mem")); done) | fail) (by decide) (by decide) (by first | ((first | exact Mine.it0 _ _ | exact Mine.it1 _ _ _); done) | fail) ?_)) | ((with_reducible show wpAny _ _ (eval (Expr.Name _ _) (compEnvC _ _ _ _)) _ _ _); k_dflt (refine' lcf_free (by k_asm) (by rfl) (by first | ((k_mem); done) | fail) (by k_asm) ?_ (by rfl) (by rfl); k_whole)) | ((with_reducible show wpAny _ _ (subscriptTail _ _ (Value.ref _) (Value.int _ _)) _ _ _); k_dflt (refine' item_list (by first | ((exact News.isList (by k_asm) (by walk_at "mem")); done) | fail) (by decide) (by decide) (by first | ((first | exact Mine.it0 _ _ | exact Mine.it1 _ _ _); done) | fail) ?_)) | (((((k_here; (with_reducible show wpAny _ _ (subscriptTail _ (PySem.Expr.Slice _ _ none _) (Value.ref _) (Value.ref _)) _ _ _); k_dflt (refine' kmk_slice_ints (by k_asm) (by k_asm) (by first | ((kmk_list); done) | fail) (by first | ((kmk_part); done) | fail) (by first | ((kmk_part); done) | fail) (by first | ((l_ints); done) | fail) (by first | ((kmk_nums); done) | fail) (by first | ((kmk_len); done) | fail) ?_ (by with_unfolding_all rfl) (by first | ((kmk_pure); done) | fail) (by first | ((kmk_size); done) | fail)); intro _ _ _ _ _ l1 hI' hC' hL'; (try simp only [Int.reduceNeg, Int.neg_neg, Int.reduceToNat] at hI' hC' hL'); (try k_lt l1)); (try (revert l1; intro _))); (try (revert hI'; intro _))); (try (revert hC'; intro _))); (try (revert hL'; intro _))) | (k_here; (with_reducible show wpAny _ _ (call (Value.builtin "sum") [Value.ref _]) _ _ _); (with_unfolding_all refine' sumK (by with_unfolding_all rfl) (by k_asm) (by k_asm) (by first | ((is_list); done) | fail) (by assumption) ?_; k_whole); intro _ _ _ _ _; (try simp only [List.sum_cons, List.sum_nil])) | (k_here; k_dflt (refine' callWith_K (by k_asm) (by first | ((k_is); done) | fail) ?_; k_whole)) | ((with_reducible show wpAny _ _ (call (Value.type "range") [Value.int _ _]) _ _ _); k_dflt (refine' Mine.range1_own (by k_asm) (by k_asm) ?_); intro _ _ _ _ _ _ _ _ _) | ((with_reducible show wpAny _ _ (call (Value.builtin "len") [Value.ref _]) _ _ _); k_dflt (refine' len_list (by first | ((exact News.isList (by k_asm) (by walk_at "mem")); done) | fail) (by first | ((walk_at "len"); done) | fail) ?_); (try simp only [List.size_toArray])) | walk1 | (dsimp only; walk1) | (leave1; walk_say "STEP leave1"; try dsimp only))))
  rename Fr base L _ _ => F5
  rename News base L _ _ => N5
  rename (D3 < _ ∧ _) => l1
  rename_i _ _ lt _ ot dt _
  have e6 := nat_lt l1.1
  clear l1
  k_dflt refine' LCg.Assign_ListComp_U F5 ?x1 ?x2 ?x3 ?x4 ?x5 ?x6 ?x7 ?x8 ?x9 ?_ ?x10
  case x1 => rfl
  case x5 => rfl
  case x7 => rfl
  case x9 => rfl
  case x4 => decide
  case x6 => decide
  case x8 => rfl
  case x10 => intro _; with_unfolding_all rfl
  case x2 => with_unfolding_all rfl
  case x3 => with_unfolding_all rfl
  (repeat' (
  (fail_if_success (with_reducible show wpAny _ _ (call (Value.ref _) _ _) _ _ _));
  (fail_if_success (with_reducible show wpAny _ _ (eval (Expr.ListComp _ _ _ _) _) _ _ _));
  (fail_if_success (with_reducible show LCg.CompSrc _ _ _ _ _ _ _ _ _ _ _ _ _ _));
  (fail_if_success (with_reducible show wpAny _ _ (compareOp _ (Value.ref _) (Value.ref _)) _ _ _));
  (fail_if_success (with_reducible show wpAny _ _ (call (Value.builtin "sorted") _ _) _ _ _));
  (fail_if_success (with_reducible show wpAny _ _ (binaryOp _ (Value.ref _) (Value.ref _)) _ _ _));
  (fail_if_success (with_reducible show wpAny _ _ (exec (Stmt.Assign _ (Expr.ListComp _ _ _ _) _) _) _ _ _));
  (first | (k_unfold; (try dsimp only)) | (k_end; wrow_close) | ((with_reducible show wpAny _ _ (subscriptTail _ _ (Value.ref _) (Value.int _ _)) _ _ _); k_dflt (refine' item_tupleT (by first | ((exact News.isTup (by k_asm) (by walk_at "mem")); done) | fail) (by decide) (by decide) (by rfl) (by rfl) ?_)) | ((with_reducible show wpAny _ _ (subscriptTail _ _ (Value.ref _) (Value.int _ _)) _ _ _); k_dflt (refine' item_list (by first | ((exact News.isList (by k_asm) (by walk_at "mem")); done) | fail) (by decide) (by decide) (by first | ((first | exact Mine.it0 _ _ | exact Mine.it1 _ _ _); done) | fail) ?_)) | ((with_reducible show wpAny _ _ (eval (Expr.Name _ _) (compEnvC _ _ _ _)) _ _ _); k_dflt (refine' lcf_free (by k_asm) (by rfl) (by first | ((k_mem); done) | fail) (by k_asm) ?_ (by rfl) (by rfl); k_whole)) | ((with_reducible show wpAny _ _ (subscriptTail _ _ (Value.ref _) (Value.int _ _)) _ _ _); k_dflt (refine' item_list (by first | ((exact News.isList (by k_asm) (by walk_at "mem")); done) | fail) (by decide) (by decide) (by first | ((first | exact Mine.it0 _ _ | exact Mine.it1 _ _ _); done) | fail) ?_)) | (((((k_here; (with_reducible show wpAny _ _ (subscriptTail _ (PySem.Expr.Slice _ _ none _) (Value.ref _) (Value.ref _)) _ _ _); k_dflt (refine' kmk_slice_ints (by k_asm) (by k_asm) (by first | ((kmk_list); done) | fail) (by first | ((kmk_part); done) | fail) (by first | ((kmk_part); done) | fail) (by first | ((l_ints); done) | fail) (by first | ((kmk_nums); done) | fail) (by first | ((kmk_len); done) | fail) ?_ (by with_unfolding_all rfl) (by first | ((kmk_pure); done) | fail) (by first | ((kmk_size); done) | fail)); intro _ _ _ _ _ l1 hI' hC' hL'; (try simp only [Int.reduceNeg, Int.neg_neg, Int.reduceToNat] at hI' hC' hL'); (try k_lt l1)); (try (revert l1; intro _))); (try (revert hI'; intro _))); (try (revert hC'; intro _))); (try (revert hL'; intro _))) | (k_here; (with_reducible show wpAny _ _ (call (Value.builtin "sum") [Value.ref _]) _ _ _); (with_unfolding_all refine' sumK (by with_unfolding_all rfl) (by k_asm) (by k_asm) (by first | ((is_list); done) | fail) (by assumption) ?_; k_whole); intro _ _ _ _ _; (try simp only [List.sum_cons, List.sum_nil])) | (k_here; k_dflt (refine' callWith_K (by k_asm) (by first | ((k_is); done) | fail) ?_; k_whole)) | ((with_reducible show wpAny _ _ (call (Value.type "range") [Value.int _ _]) _ _ _); k_dflt (refine' Mine.range1_own (by k_asm) (by k_asm) ?_); intro _ _ _ _ _ _ _ _ _) | ((with_reducible show wpAny _ _ (call (Value.builtin "len") [Value.ref _]) _ _ _); k_dflt (refine' len_list (by first | ((exact News.isList (by k_asm) (by walk_at "mem")); done) | fail) (by first | ((walk_at "len"); done) | fail) ?_); (try simp only [List.size_toArray])) | walk1 | (dsimp only; walk1) | (leave1; walk_say "STEP leave1"; try dsimp only))))
  rename Fr base L _ _ => F6
  rename News base L _ _ => N6
  rename (∀ p ∈ _, _ < _) => l1
  have e7 := nat_lt (l1 _ (.head _))
  clear l1 F5 N5
  refine LCg.CompSrc.range (n := 2) rfl F6 N6 (N6 _ (.head _)).1 (by decide) (by decide) (by rw [sizeLine_eq]; decide) ?_
  intro hg
  clear F6 N6
  refine LCg.CompRest.succ ?_
  rintro v I oI C oC D m₂ h5 tk5 E' ⟨t9, rfl⟩ hC hx F7 N7 off nIC
  replace hx : m₂ (Str.ofString "k") = some (.int 0 t9) := hx
  (repeat' (
  (fail_if_success (with_reducible show wpAny _ _ (call (Value.ref _) _ _) _ _ _));
  (fail_if_success (with_reducible show wpAny _ _ (eval (Expr.ListComp _ _ _ _) _) _ _ _));
  (fail_if_success (with_reducible show LCg.CompSrc _ _ _ _ _ _ _ _ _ _ _ _ _ _));
  (fail_if_success (with_reducible show wpAny _ _ (compareOp _ (Value.ref _) (Value.ref _)) _ _ _));
  (fail_if_success (with_reducible show wpAny _ _ (call (Value.builtin "sorted") _ _) _ _ _));
  (fail_if_success (with_reducible show wpAny _ _ (binaryOp _ (Value.ref _) (Value.ref _)) _ _ _));
  (fail_if_success (with_reducible show wpAny _ _ (exec (Stmt.Assign _ (Expr.ListComp _ _ _ _) _) _) _ _ _));
  (first | (k_unfold; (try dsimp only)) | (k_end; wrow_close) | ((with_reducible show wpAny _ _ (subscriptTail _ _ (Value.ref _) (Value.int _ _)) _ _ _); k_dflt (refine' item_tupleT (by first | ((exact News.isTup (by k_asm) (by walk_at "mem")); done) | fail) (by decide) (by decide) (by rfl) (by rfl) ?_)) | ((with_reducible show wpAny _ _ (subscriptTail _ _ (Value.ref _) (Value.int _ _)) _ _ _); k_dflt (refine' item_list (by first | ((exact News.isList (by k_asm) (by walk_at "mem")); done) | fail) (by decide) (by decide) (by first | ((first | exact Mine.it0 _ _ | exact Mine.it1 _ _ _); done) | fail) ?_)) | ((with_reducible show wpAny _ _ (eval (Expr.Name _ _) (compEnvC _ _ _ _)) _ _ _); k_dflt (refine' lcf_free (by k_asm) (by rfl) (by first | ((k_mem); done) | fail) (by k_asm) ?_ (by rfl) (by rfl); k_whole)) | ((with_reducible show wpAny _ _ (subscriptTail _ _ (Value.ref _) (Value.int _ _)) _ _ _); k_dflt (refine' item_list (by first | ((exact News.isList (by k_asm) (by walk_at "mem")); done) | fail) (by decide) (by decide) (by first | ((first | exact Mine.it0 _ _ | exact Mine.it1 _ _ _); done) | fail) ?_)) | (((((k_here; (with_reducible show wpAny _ _ (subscriptTail _ (PySem.Expr.Slice _ _ none _) (Value.ref _) (Value.ref _)) _ _ _); k_dflt (refine' kmk_slice_ints (by k_asm) (by k_asm) (by first | ((kmk_list); done) | fail) (by first | ((kmk_part); done) | fail) (by first | ((kmk_part); done) | fail) (by first | ((l_ints); done) | fail) (by first | ((kmk_nums); done) | fail) (by first | ((kmk_len); done) | fail) ?_ (by with_unfolding_all rfl) (by first | ((kmk_pure); done) | fail) (by first | ((kmk_size); done) | fail)); intro _ _ _ _ _ l1 hI' hC' hL'; (try simp only [Int.reduceNeg, Int.neg_neg, Int.reduceToNat] at hI' hC' hL'); (try k_lt l1)); (try (revert l1; intro _))); (try (revert hI'; intro _))); (try (revert hC'; intro _))); (try (revert hL'; intro _))) | (k_here; (with_reducible show wpAny _ _ (call (Value.builtin "sum") [Value.ref _]) _ _ _); (with_unfolding_all refine' sumK (by with_unfolding_all rfl) (by k_asm) (by k_asm) (by first | ((is_list); done) | fail) (by assumption) ?_; k_whole); intro _ _ _ _ _; (try simp only [List.sum_cons, List.sum_nil])) | (k_here; k_dflt (refine' callWith_K (by k_asm) (by first | ((k_is); done) | fail) ?_; k_whole)) | ((with_reducible show wpAny _ _ (call (Value.type "range") [Value.int _ _]) _ _ _); k_dflt (refine' Mine.range1_own (by k_asm) (by k_asm) ?_); intro _ _ _ _ _ _ _ _ _) | ((with_reducible show wpAny _ _ (call (Value.builtin "len") [Value.ref _]) _ _ _); k_dflt (refine' len_list (by first | ((exact News.isList (by k_asm) (by walk_at "mem")); done) | fail) (by first | ((walk_at "len"); done) | fail) ?_); (try simp only [List.size_toArray])) | walk1 | (dsimp only; walk1) | (leave1; walk_say "STEP leave1"; try dsimp only))))
  rename Fr base L _ _ => F8
  rename News base L _ _ => N8
  obtain ⟨i1, i2, i3⟩ := LCg.Off3.mem off (79, tabObj #[]) (by walk_at "mem")
  replace i1 := nat_ne i1
  replace i2 := nat_ne i2
  replace i3 := nat_ne i3
  refine' c_read _ _ _ _ _ _ _ _ callerA base base L _ _ _ _ _ B1 F8 KX Cd2 KN T1 KX T1 rfl (by decide) (by decide) (by decide) (by decide) N8 _ #[] ?U (.inl rfl) D2 n2 ws2 _ ws0.length _ (by walk_at "o") (by walk_at "mem") hw2 c0 b0 ?_
  case U => k_updF
  intro dT lr wr nr ps' own tr h6 tk6 F9 N9 hwr tab' hown hnew
  replace tab' : TabSt own ps' := tab'.resolve_right fun h9 => by
    obtain ⟨_, _, h7, _⟩ := h9
    cases h7
  obtain ⟨z1, z2⟩ := r0 ws0.length (by walk_at "o")
  rw [z1] at hwr
  rw [z2] at N9
  have fd0 : (dT : Nat) ≠ L + 1 + 1 + 1 + 1 := (hnew _ (by walk_at "mem" : (L + 1 + 1 + 1 + 1, _) ∈ _)).1
  have fl0 : (lr : Nat) ≠ L + 1 + 1 + 1 + 1 := (hnew _ (by walk_at "mem" : (L + 1 + 1 + 1 + 1, _) ∈ _)).2
  have fd1 : (dT : Nat) ≠ L + 1 + 1 + 1 := (hnew _ (by walk_at "mem" : (L + 1 + 1 + 1, _) ∈ _)).1
  have fl1 : (lr : Nat) ≠ L + 1 + 1 + 1 := (hnew _ (by walk_at "mem" : (L + 1 + 1 + 1, _) ∈ _)).2
  have fd2 : (dT : Nat) ≠ L + 1 + 1 := (hnew _ (by walk_at "mem" : (L + 1 + 1, _) ∈ _)).1
  have fl2 : (lr : Nat) ≠ L + 1 + 1 := (hnew _ (by walk_at "mem" : (L + 1 + 1, _) ∈ _)).2
  have fd3 : (dT : Nat) ≠ L + 1 := (hnew _ (by walk_at "mem" : (L + 1, _) ∈ _)).1
  have fl3 : (lr : Nat) ≠ L + 1 := (hnew _ (by walk_at "mem" : (L + 1, _) ∈ _)).2
  have fd4 : (dT : Nat) ≠ 30 := (hnew _ (by walk_at "mem" : (30, _) ∈ _)).1
  have fl4 : (lr : Nat) ≠ 30 := (hnew _ (by walk_at "mem" : (30, _) ∈ _)).2
  have fd5 : (dT : Nat) ≠ 79 := (hnew _ (by walk_at "mem" : (79, _) ∈ _)).1
  have fl5 : (lr : Nat) ≠ 79 := (hnew _ (by walk_at "mem" : (79, _) ∈ _)).2
  have fd6 : (dT : Nat) ≠ 117 := (hnew _ (by walk_at "mem" : (117, _) ∈ _)).1
  have fl6 : (lr : Nat) ≠ 117 := (hnew _ (by walk_at "mem" : (117, _) ∈ _)).2
  have fown : ∀ q ∈ own, L + 1 + 1 + 1 + 1 < q.1 := fun q hq => hown q hq _ (by walk_at "mem" : (L + 1 + 1 + 1 + 1, _) ∈ _)
  have own79 : ∀ q ∈ own, q.1 ≠ 79 := fun q hq => neN (by have := nat_lt (fown q hq); walk_at "o")
  refine compEnd_read F9 N9 off hown hnew trivial ?_
  clear F8 N8 F9 N9 off hown hnew hC hx nIC i1 i2 i3 z1 z2 qk ek
  refine LCg.CompRest.succ ?_
  rintro v I oI C oC D m₂ h5 tk5 E' ⟨t9, rfl⟩ hC hx F7 N7 off nIC
  replace hx : m₂ (Str.ofString "k") = some (.int 1 t9) := hx
  try simp only [List.cons_append, List.nil_append] at N7 off
  (repeat' (
  (fail_if_success (with_reducible show wpAny _ _ (call (Value.ref _) _ _) _ _ _));
  (fail_if_success (with_reducible show wpAny _ _ (eval (Expr.ListComp _ _ _ _) _) _ _ _));
  (fail_if_success (with_reducible show LCg.CompSrc _ _ _ _ _ _ _ _ _ _ _ _ _ _));
  (fail_if_success (with_reducible show wpAny _ _ (compareOp _ (Value.ref _) (Value.ref _)) _ _ _));
  (fail_if_success (with_reducible show wpAny _ _ (call (Value.builtin "sorted") _ _) _ _ _));
  (fail_if_success (with_reducible show wpAny _ _ (binaryOp _ (Value.ref _) (Value.ref _)) _ _ _));
  (fail_if_success (with_reducible show wpAny _ _ (exec (Stmt.Assign _ (Expr.ListComp _ _ _ _) _) _) _ _ _));
  (first | (k_unfold; (try dsimp only)) | (k_end; wrow_close) | ((with_reducible show wpAny _ _ (subscriptTail _ _ (Value.ref _) (Value.int _ _)) _ _ _); k_dflt (refine' item_tupleT (by first | ((exact News.isTup (by k_asm) (by walk_at "mem")); done) | fail) (by decide) (by decide) (by rfl) (by rfl) ?_)) | ((with_reducible show wpAny _ _ (subscriptTail _ _ (Value.ref _) (Value.int _ _)) _ _ _); k_dflt (refine' item_list (by first | ((exact News.isList (by k_asm) (by walk_at "mem")); done) | fail) (by decide) (by decide) (by first | ((first | exact Mine.it0 _ _ | exact Mine.it1 _ _ _); done) | fail) ?_)) | ((with_reducible show wpAny _ _ (eval (Expr.Name _ _) (compEnvC _ _ _ _)) _ _ _); k_dflt (refine' lcf_free (by k_asm) (by rfl) (by first | ((k_mem); done) | fail) (by k_asm) ?_ (by rfl) (by rfl); k_whole)) | ((with_reducible show wpAny _ _ (subscriptTail _ _ (Value.ref _) (Value.int _ _)) _ _ _); k_dflt (refine' item_list (by first | ((exact News.isList (by k_asm) (by walk_at "mem")); done) | fail) (by decide) (by decide) (by first | ((first | exact Mine.it0 _ _ | exact Mine.it1 _ _ _); done) | fail) ?_)) | (((((k_here; (with_reducible show wpAny _ _ (subscriptTail _ (PySem.Expr.Slice _ _ none _) (Value.ref _) (Value.ref _)) _ _ _); k_dflt (refine' kmk_slice_ints (by k_asm) (by k_asm) (by first | ((kmk_list); done) | fail) (by first | ((kmk_part); done) | fail) (by first | ((kmk_part); done) | fail) (by first | ((l_ints); done) | fail) (by first | ((kmk_nums); done) | fail) (by first | ((kmk_len); done) | fail) ?_ (by with_unfolding_all rfl) (by first | ((kmk_pure); done) | fail) (by first | ((kmk_size); done) | fail)); intro _ _ _ _ _ l1 hI' hC' hL'; (try simp only [Int.reduceNeg, Int.neg_neg, Int.reduceToNat] at hI' hC' hL'); (try k_lt l1)); (try (revert l1; intro _))); (try (revert hI'; intro _))); (try (revert hC'; intro _))); (try (revert hL'; intro _))) | (k_here; (with_reducible show wpAny _ _ (call (Value.builtin "sum") [Value.ref _]) _ _ _); (with_unfolding_all refine' sumK (by with_unfolding_all rfl) (by k_asm) (by k_asm) (by first | ((is_list); done) | fail) (by assumption) ?_; k_whole); intro _ _ _ _ _; (try simp only [List.sum_cons, List.sum_nil])) | (k_here; k_dflt (refine' callWith_K (by k_asm) (by first | ((k_is); done) | fail) ?_; k_whole)) | ((with_reducible show wpAny _ _ (call (Value.type "range") [Value.int _ _]) _ _ _); k_dflt (refine' Mine.range1_own (by k_asm) (by k_asm) ?_); intro _ _ _ _ _ _ _ _ _) | ((with_reducible show wpAny _ _ (call (Value.builtin "len") [Value.ref _]) _ _ _); k_dflt (refine' len_list (by first | ((exact News.isList (by k_asm) (by walk_at "mem")); done) | fail) (by first | ((walk_at "len"); done) | fail) ?_); (try simp only [List.size_toArray])) | walk1 | (dsimp only; walk1) | (leave1; walk_say "STEP leave1"; try dsimp only))))
  rename Fr base L _ _ => F8
  rename News base L _ _ => N8
  obtain ⟨i1, i2, i3⟩ := LCg.Off3.mem off (79, tabObj ps') (by walk_at "mem")
  replace i1 := nat_ne i1
  replace i2 := nat_ne i2
  replace i3 := nat_ne i3
  refine' c_read _ _ _ _ _ _ _ _ callerA base base L _ _ _ _ _ B1 F8 KX Cd2 KN T1 KX T1 rfl (by decide) (by decide) (by decide) (by decide) N8 _ ps' ?U (.inr (tab'.mono fun p hp => by walk_at "tail")) D3 n3 ws3 _ ws1.length _ (by walk_at "o") (by walk_at "mem") hw3 c1 b1 ?_
  case U => k_updF
  intro dT2 lr2 wr2 nr2 ps2 own2 tr2 h6 tk6 F9 N9 hwr2 _ hown hnew
  obtain ⟨z1, z2⟩ := r1 ws1.length (by walk_at "o")
  rw [z1] at hwr2
  rw [z2] at N9
  have gd0 : (dT2 : Nat) ≠ L + 1 + 1 + 1 + 1 := (hnew _ (by walk_at "mem" : (L + 1 + 1 + 1 + 1, _) ∈ _)).1
  have gl0 : (lr2 : Nat) ≠ L + 1 + 1 + 1 + 1 := (hnew _ (by walk_at "mem" : (L + 1 + 1 + 1 + 1, _) ∈ _)).2
  have gd1 : (dT2 : Nat) ≠ L + 1 + 1 + 1 := (hnew _ (by walk_at "mem" : (L + 1 + 1 + 1, _) ∈ _)).1
  have gl1 : (lr2 : Nat) ≠ L + 1 + 1 + 1 := (hnew _ (by walk_at "mem" : (L + 1 + 1 + 1, _) ∈ _)).2
  have gd2 : (dT2 : Nat) ≠ L + 1 + 1 := (hnew _ (by walk_at "mem" : (L + 1 + 1, _) ∈ _)).1
  have gl2 : (lr2 : Nat) ≠ L + 1 + 1 := (hnew _ (by walk_at "mem" : (L + 1 + 1, _) ∈ _)).2
  have gd3 : (dT2 : Nat) ≠ L + 1 := (hnew _ (by walk_at "mem" : (L + 1, _) ∈ _)).1
  have gl3 : (lr2 : Nat) ≠ L + 1 := (hnew _ (by walk_at "mem" : (L + 1, _) ∈ _)).2
  have gd4 : (dT2 : Nat) ≠ 30 := (hnew _ (by walk_at "mem" : (30, _) ∈ _)).1
  have gl4 : (lr2 : Nat) ≠ 30 := (hnew _ (by walk_at "mem" : (30, _) ∈ _)).2
  have gd5 : (dT2 : Nat) ≠ 79 := (hnew _ (by walk_at "mem" : (79, _) ∈ _)).1
  have gl5 : (lr2 : Nat) ≠ 79 := (hnew _ (by walk_at "mem" : (79, _) ∈ _)).2
  have gd6 : (dT2 : Nat) ≠ 117 := (hnew _ (by walk_at "mem" : (117, _) ∈ _)).1
  have gl6 : (lr2 : Nat) ≠ 117 := (hnew _ (by walk_at "mem" : (117, _) ∈ _)).2
  have gown : ∀ q ∈ own2, L + 1 + 1 + 1 + 1 < q.1 := fun q hq => hown q hq _ (by walk_at "mem" : (L + 1 + 1 + 1 + 1, _) ∈ _)
  refine compEnd_read F9 N9 off hown hnew trivial ?_
  clear F8 N8 F9 N9 off hown hnew hC hx nIC i1 i2 i3 z1 z2 qk ek
  refine LCg.CompRest.zero ?_
  intro D5 h5 tk5 F5 N5 off5
  try simp only [List.cons_append, List.nil_append] at N5 off5
  dsimp only
  replace e0 : L + 1 + 1 + 1 + 1 < (t0 : Nat) := e0
  replace e4 := nat_lt e4
  replace e5 := nat_lt e5
  have u1 : L + 1 + 1 + 1 + 1 < (t1 : Nat) := Nat.lt_trans e0 e1
  have uD1 : L + 1 + 1 + 1 + 1 < (D1 : Nat) := Nat.lt_trans u1 e2
  have uD2 : L + 1 + 1 + 1 + 1 < (D2 : Nat) := Nat.lt_trans uD1 (Nat.lt_trans e3 e4)
  have uD3 : L + 1 + 1 + 1 + 1 < (D3 : Nat) := Nat.lt_trans uD2 e5
  have ult : L + 1 + 1 + 1 + 1 < (lt : Nat) := Nat.lt_trans uD3 e6
  have uown : ∀ q ∈ own ++ own2, L + 1 + 1 + 1 + 1 < q.1 := fun q hq => (List.mem_append.mp hq).elim (fown q) (gown q)
  have n50 : (D5 : Addr) ≠ L + 1 + 1 + 1 + 1 := off1_mem off5 _ (by walk_at "mem" : ((L + 1 + 1 + 1 + 1 : Addr), _) ∈ _)
  have n51 : (D5 : Addr) ≠ L + 1 + 1 + 1 := off1_mem off5 _ (by walk_at "mem" : ((L + 1 + 1 + 1 : Addr), _) ∈ _)
  have n52 : (D5 : Addr) ≠ L + 1 + 1 := off1_mem off5 _ (by walk_at "mem" : ((L + 1 + 1 : Addr), _) ∈ _)
  have n53 : (D5 : Addr) ≠ L + 1 := off1_mem off5 _ (by walk_at "mem" : ((L + 1 : Addr), _) ∈ _)
  have n54 : (D5 : Addr) ≠ 30 := off1_mem off5 _ (by walk_at "mem" : ((30 : Addr), _) ∈ _)
  have n55 : (D5 : Addr) ≠ 79 := off1_mem off5 _ (by walk_at "mem" : ((79 : Addr), _) ∈ _)
  have n56 : (D5 : Addr) ≠ 117 := off1_mem off5 _ (by walk_at "mem" : ((117 : Addr), _) ∈ _)
  rename (Obj.data _ = Data.cell (some (Value.ref lt))) => d2
  rename (Obj.data _ = Data.cell (some (Value.ref D1))) => d1
  clear e0 e1 e2 e3 e4 e5 e6 e7
  walk_say "A"
  refine c_law2 base L fa _ _ _ _ _ _ Q E B1 KX T1 Cd1 Cd3 KN hL1 D5 dT lr dT2 lr2 lt D3 D2 D1 t0 t1 wr wr2 ws2 ws3 ws1 nr nr2 n2 n3 n1 tr tr2 ps2 (own ++ own2) tp0 tp1 ts0 ts1 j0 n50 n51 n52 n53 n54 n55 n56 fd0 fd1 fd2 fd3 fd4 fd5 fd6 fl0 fl1 fl2 fl3 fl4 fl5 fl6 gd0 gd1 gd2 gd3 gd4 gd5 gd6 gl0 gl1 gl2 gl3 gl4 gl5 gl6 ult uD3 uD2 uD1 u1 uown F5 rfl (news_sub N5 ?sub) d1 d2 ho3 ho4 p0 p1 q0.2 q1 hw2 hw3 b0 c0 b1 c1 one0 two0 hwr hwr2 hw1 ?fin
  case sub => walk_at "sub"
  case fin => exact hret
end
section
noncomputable abbrev hxAs : List Addr := [0, 1, 2, 3, 4, 5, 6, 7, 8, 9, 10, 11, 12, 13, 14, 15, 16, 17, 18, 19, 20, 21, 22, 23, 24, 25, 26, 27, 28, 29, 30, 31, 32, 33, 34, 35, 36, 37, 38, 39, 40, 41, 42, 43, 44, 45, 46, 47, 48, 49, 50, 51, 52, 53, 54, 55, 56, 57, 58, 59, 60, 61, 62, 63, 64, 65, 66, 67, 68, 69, 70, 71, 72, 73, 74, 75, 76, 77, 78, 79, 80, 81, 82, 83, 84, 85, 86, 87, 88, 89, 90, 91, 92, 93, 94, 95, 96, 97, 98, 99, 100, 101, 102, 103, 104, 105, 106, 107, 108, 109, 110, 111, 112, 113, 114, 115, 116, 117, 118, 119, 120]
noncomputable abbrev hook : Hook := kHook hx.heap_1 hxAs (fun _ => by kernel_rfl)
/-- the top's view: the law alone -/
noncomputable abbrev vw : Program := view Challenge.pw_il0109_01 [20]
noncomputable abbrev lo : List Str := ["read_uint1", "read_string1", "cmp_to_key", "_initial_missing", "reduce", "sorted_list_difference", "unorderable_list_difference", "three_way_cmp", "_law_texts", "_law_tape", "_law_stream", "_law_stepped", "_law_read", "_law_whole", "_law_lacking", "_law_told"]
theorem wellSaid : Challenge.rw_il0109_01.wellSaid = true := by kernel_rfl
theorem left : LeftO Challenge.pw_il0109_01 vw lo (fun s => xlAt vw [] s && recOk (RowW.records (OpenRow.toRowW Challenge.rw_il0109_01.row)) s) hook.obs hook.val 1240 := by
  intro w
  kernel_rfl
theorem fin : Challenge.rw_il0109_01.Holds := by
  w_on
  refine holds_law wellSaid fun said => ?_
  refine holds_open (q := vw) (loose := lo) (Xt := fun s => xlAt vw [] s && recOk (RowW.records (OpenRow.toRowW Challenge.rw_il0109_01.row)) s) (XP := XL vw []) (Yf := hook.obs) (Ya := hook.val) (YP := hook.says) (N := 1240) left hook.of hook.keeps (fun s e => xl_of s (Bool.and_eq_true_iff.mp e).1) XL.keeps (by rfl) (by rfl) (by rfl) (fun s e => recFacts_of (Bool.and_eq_true_iff.mp e).2) (by rfl) (by assumption) (by decide +kernel) ⟨rfl, rfl, rfl, rfl, rfl, by decide +kernel⟩ ?hw ?hc
  case hw => w_witness2
  k_fill
  intro w s₀ s₁ mg mb G Y fa o pm cd doc dV kV ho hd0 hcd hD hmg hg args vals as hpre hlay hrd hwl hlo
  have KX0 := kIn_of Y
  have KX := kx_of KX0
  have KN := kno_of KX0
  have hT9 := tabs_of KX0
  have X := (Ground.X G).1
  have V := (Ground.X G).2
  refine Ground.open G ?_
  intro T B D TE TW
  try (refine guard_noD D (by decide +kernel) ?_; clear D)
  have he9 : cd = PySem.Value.ref 119 := law_code (x := PySem.Str.ofString "law") (c := 119) (P := 117) KX0 (Top.g T) (by kernel_rfl) hmg ho hd0
  subst he9
  clear hmg KX0 Y
  wrow_args hpre hlay hrd hwl hlo

  all_goals (
    first | refine callC_kw (enter_call ?_) | refine enter_call ?_
    w_top on
    kn_posts
    w_call any ho hd0 hcd hD T F
    clear hd0)

  all_goals (
    kn_ghosts F T
    k_drop
    skip)
  rename (IntsAre _ _) => HI
  rename (¬ _ < _) => Hc
  rename (Below _ _ _ _) => B1
  rename (Fr (ghostOf _ _) _ _ _) => F1
  rename (News (ghostOf _ _) _ _ _) => N1
  rename (Top topProg _ _ _ _ _) => T1
  rename (CodeHd _ (34, 30).1 (34, 30).2) => Cd1
  rename (CodeHd _ (83, 79).1 (83, 79).2) => Cd2
  rename (CodeHd _ (119, 117).1 (119, 117).2) => Cd3
  rename ((hd.heap_1 _).In _) => KX1
  rename_i o4 o3 o2 o1 ho4 ho3 ho2 ho1 _ _
  refine c_law (ghostOf s₁.heap _) s₁.heap s₁.heap.objs.size fa _ o1 o2 o3 o4 _ _ _ _ _ _ B1 F1 ?hm KX1 T1 Cd1 Cd2 Cd3 KN KN.big ?hL N1 ho1 ho2 ho3 ho4 lifted HI ?hn ?fin
  case hm => with_unfolding_all rfl
  case hL => exact Nat.le_of_eq (hideAll_size _ _)
  case hn => walk_at "o"
  case fin =>
    intro h' tk' ps1 ps2 ps3 nx m' F N
    clear N1 F1
    refine And.intro ?g1 ?g2
    case g2 => walk_at "GrownAll"
    case g1 =>
      first
      | (k_end; wrow_close)
      | walk_at "see"
end
end Mine
theorem PySem.Challenge.cw_il0109_01_holds : PySem.Challenge.rw_il0109_01.Holds :=
  Mine.fin
