import PyProof.Rows.All
import Wide.All
import OpenK.AllK
import Wide.FinOn
import PySem.Challenge.RW_ny0343_01
set_option Elab.async false
set_option rowWalk.seconds 0
set_option linter.all false
open PySem PySem.W PySem.Calls PyProof.Rows PySem.Spec
namespace Mine
set_option maxRecDepth 100000
set_option maxHeartbeats 8000000
section PartTop
open_top hd for PySem.Challenge.rw_ny0343_01
end PartTop
section PartBase
theorem allLt_lt {d : Nat} : ∀ {l : List (Addr × Obj)}, AllLt d l → ∀ p ∈ l, p.1 < d
  | [], _, _, h => nomatch h
  | q :: r, h, p, hp => by
    rcases List.mem_cons.mp hp with rfl | hp
    · exact h.1
    · exact allLt_lt h.2 p hp
theorem allLt_neL {d d' : Nat} {l : List (Addr × Obj)} (h : AllLt d' l) (hl : d' ≤ d) : ∀ q ∈ l, q.1 ≠ d := fun q hq =>
  Nat.ne_of_lt (Nat.lt_of_lt_of_le (allLt_lt h q hq) hl)
/-- the state of a code table: nothing made yet, or the one nested def's code, which the ledger bears -/
def TabSt (P line col : Nat) (qual : Str) (oP : Obj) (news : List (Addr × Obj)) : Prop :=
  oP = tabObj #[] ∨ ∃ c' oc vs t, oP = tabObj #[rawInt line, rawInt col, .ref c'] ∧ (c', oc) ∈ news ∧ oc.data = .fields vs ∧ vs[1]? = some (.str qual t) ∧ c' ≠ P
theorem TabSt.sub {P line col : Nat} {qual : Str} {oP : Obj} {news news' : List (Addr × Obj)} (h : TabSt P line col qual oP news) (hs : ∀ p ∈ news, p ∈ news') : TabSt P line col qual oP news' := by
  rcases h with h | ⟨c', oc, vs, t, h1, h2, h3⟩
  · exact .inl h
  · exact .inr ⟨c', oc, vs, t, h1, hs _ h2, h3⟩
section
variable {M : Model} {A : Around} {E : Value → Shared → Prop} {s : Shared} {h₀ : Heap} {L a c P : Addr} {m mg mb : Str → Option Value} {cn : Str} {cs : Scope} {ccd : Value} {cl : List (Str × Addr)} {news tail : List (Addr × Obj)} {g : Obj → List (Addr × Obj)}
  {p : Program} {loose : List Str} {mean : ExcName → Option Value} {name qual : Str} {params : Arguments} {body : List Stmt} {scope : Scope} {oP : Obj} {pos : Pos} {firstLine : Nat} {clos : List (Str × Addr)}
theorem nestAny_K {Q : Value → Shared → Prop} (F : Fr h₀ L s.heap m) (N : News h₀ L s.heap news) (T : Top p loose mean mg mb h₀) (C : CodeHd h₀ c P) (hcd : ccd = .ref c) (U : UpdF P oP news g)
    (hS : TabSt P pos.line pos.col qual oP tail) (hsub : ∀ q ∈ tail, q ∈ news) (htl : ∀ q ∈ tail, q.1 < L)
    (hcl : closureFor scope (envX cn cs L a ccd cl) = pure clos)
    (h : ∀ f c' oc vs t ctv doc h' tk, Fr h₀ L h' m →
      News h₀ L h' ((f, fnMade name qual params body scope clos doc ((mg "__name__").getD .none) c' ctv) :: (c', oc) :: g (tabObj #[rawInt pos.line, rawInt pos.col, .ref c'])) →
      oc.data = .fields vs → vs[1]? = some (.str qual t) → (∀ q ∈ news, q.1 < f) → c' < f → @Ne Nat c' P → (((c', oc) ∈ tail ∧ @LT.lt Nat _ c' L) ∨ AllLt c' news) → Q (.ref f) { s with heap := h', toks := tk }) :
    wpAny M A (makeFunction name qual params (.stmts body) scope (envX cn cs L a ccd cl) [] [] [] pos firstLine) Q E s := by
  rcases hS with rfl | ⟨c', oc, vs, t, rfl, hm, hd, hv, hne⟩
  · have hP : (P, tabObj #[]) ∈ news := by
      obtain ⟨pre, post, rfl, _⟩ := U.split
      exact List.mem_append_right _ (.head _)
    refine nest_K F N T C hcd U True.intro rfl hcl fun f c' oc vs t ctv doc h' tk F' N' hd hv l1 l2 => ?_
    exact h f c' oc vs t ctv doc h' tk F' N' hd hv (fun q hq => Nat.lt_trans (l1 q hq) l2) l2 (Nat.ne_of_gt (l1 _ hP)) (.inr (allLt_of l1))
  · have hP : (P, tabObj #[rawInt pos.line, rawInt pos.col, .ref c']) ∈ news := by
      obtain ⟨pre, post, rfl, _⟩ := U.split
      exact List.mem_append_right _ (.head _)
    have hg : g (tabObj #[rawInt pos.line, rawInt pos.col, .ref c']) = news := by
      obtain ⟨pre, post, rfl, hg, _⟩ := U.split
      exact hg _
    refine nestHit_K (c' := c') F N T C hcd hP (by simp [TriplesOk, rawInt]) (by simp [codeAmong, rawInt]) hcl fun f ctv doc h' tk F' N' l1 => ?_
    rw [← hg] at N'
    refine h f c' oc vs t ctv doc h' tk F' (fun q hq => ?_) hd hv l1 (l1 _ (hsub _ hm)) hne (.inl ⟨hm, htl _ hm⟩)
    rcases List.mem_cons.mp hq with rfl | hq
    · exact N' _ (.head _)
    · rcases List.mem_cons.mp hq with rfl | hq
      · exact N' _ (.tail _ (hg ▸ hsub _ hm))
      · exact N' _ (.tail _ hq)
end
theorem news_lt {h₀ h : Heap} {L : Addr} {news : List (Addr × Obj)} (N : News h₀ L h news) : ∀ p ∈ news, p.1 < h.objs.size := fun p hp => Heap.lt_size (N p hp).1
theorem nat_range {P : Int → Prop} (lo hi : Nat) (h : ∀ k : Nat, k < hi + 1 → lo ≤ k → P k) : ∀ x : Int, (lo : Int) ≤ x → x ≤ (hi : Int) → P x := fun x h0 h1 => by
  obtain ⟨k, rfl⟩ := Int.eq_ofNat_of_zero_le (a := x) (by omega)
  exact h k (by omega) (by omega)
end PartBase
section PartLp
open PyProof.Rows.LCg
/-- what stands after a loop's iterable: the iterator is made and the loop runs -/
def LpSrc (prog : Program) (w : World) (A : Around) (env : Env) (x : Str) (px : Pos) (body : List Stmt) (Q : Flow → Shared → Prop) (E : Value → Shared → Prop) (xv : Value) (s₁ : Shared) : Prop :=
  wpAny (model prog w) A (pyIter xv) (fun it s₂ => codeAny (model prog w) A (.forLoop (.Name x px) it body [] env) (fun r s' => match r with | .ok f => Q f s' | .error e => cameBackBy (model prog w) A env E e s') s₂) E s₁
section
variable {prog : Program} {w : World} {A : Around} {E : Value → Shared → Prop} {s : Shared} {env : Env} {h₀ : Heap} {x : Str} {px pos : Pos} {body : List Stmt} {Q : Flow → Shared → Prop}
theorem lp_for {iter : Expr} (h : wpAny (model prog w) A (eval iter env) (LpSrc prog w A env x px body Q E) E s) (hs : ∀ x, foldedSetIterable iter env x = pure x := by intro _; rfl) :
    wpAny (model prog w) A (exec (.For (.Name x px) iter body [] pos) env) Q E s := wpAny_For h hs
/-- one turn of a loop, in the words of the ledger; the state may have drawn -/
def LpTurn (prog : Program) (w : World) (A : Around) (h₀ : Heap) (env : Env) (x : Str) (body : List Stmt) (s : Shared) (n : Nat) (P : Nat → Value → Prop) (J : Nat → (Str → Option Value) → List (Addr × Obj) → Prop) (I : Addr) : Prop :=
  ∀ i v m₁ news₁ oI h tk dr (Q' : Flow → Shared → Prop) (E' : Value → Shared → Prop), i < n → P i v → J i m₁ news₁ → Off1 I news₁ →
    Fr h₀ env.locals h (fun y => if y = x then some v else m₁ y) → News h₀ env.locals h ((I, oI) :: news₁) →
    (∀ h' tk' dr' m₂ news₂, Fr h₀ env.locals h' m₂ → News h₀ env.locals h' ((I, oI) :: news₂) → Off1 I news₂ → J (i + 1) m₂ news₂ → Q' .next { s with heap := h', drawn := dr', toks := tk' }) →
    wpAny (model prog w) A (execs body env) Q' E' { s with heap := h, drawn := dr, toks := tk }
theorem off1_mem {D : Addr} : ∀ {l : List (Addr × Obj)}, Off1 D l → ∀ p ∈ l, p.1 ≠ D
  | [], _, _, h => nomatch h
  | _ :: _, x, p, h => by
    rcases List.mem_cons.mp h with rfl | h
    · exact x.1
    · exact off1_mem x.2 p h
theorem off1_of {D : Addr} : ∀ {l : List (Addr × Obj)}, (∀ p ∈ l, p.1 ≠ D) → Off1 D l
  | [], _ => trivial
  | _ :: _, h => ⟨h _ List.mem_cons_self, off1_of fun p hp => h p (List.mem_cons_of_mem _ hp)⟩
theorem lp_walk {R : Result → Shared → Prop} {I : Addr} {fp : List Addr} {n : Nat} {P : Nat → Value → Prop} {St : Nat → Heap → Prop} {S : List (Addr × Obj) → Prop} {m : Str → Option Value} {news : List (Addr × Obj)}
    (W : Walks prog w A I fp [I] n P St) (hIo : ∀ i h, St i h → ∃ o, h.get? I = some o)
    (hSt : ∀ i h h' o nw, St i h → h.get? I = some o → h'.get? I = some o → (∀ b o, h₀.get? b = some o → h'.get? b = some o) → News h₀ env.locals h' nw → S nw → St i h')
    (hx : env.kindOf x = some .local) (hp : (env.scope.kind == .class || (env.scope.kind == .module && env.locals != env.globals)) = false)
    (hIL : env.locals ≠ I) (hLf : env.locals ∉ fp) (hI₀ : h₀.get? I = none) (off : ∀ p ∈ news, p.1 ≠ I) (hst : St 0 s.heap) (F : Fr h₀ env.locals s.heap m) (N : News h₀ env.locals s.heap news)
    (J : Nat → (Str → Option Value) → List (Addr × Obj) → Prop) (hJS : ∀ i m' nw, J i m' nw → S nw) (h0 : J 0 m news)
    (turn : LpTurn prog w A h₀ env x body s n P J I)
    (fin : ∀ h' tk dr m' news', Fr h₀ env.locals h' m' → News h₀ env.locals h' news' → J n m' news' → R (.ok .next) { s with heap := h', drawn := dr, toks := tk }) :
    codeAny (model prog w) A (.forLoop (.Name x px) (.ref I) body [] env) R s := by
  refine codeAny_forLoop
    (fun k s' => ∃ h' tk dr m' news' i, s' = { s with heap := h', drawn := dr, toks := tk } ∧ St i h' ∧ Fr h₀ env.locals h' m' ∧ News h₀ env.locals h' news' ∧ Off1 I news' ∧ J i m' news' ∧ i ≤ n ∧ k = n + 1 - i) ?_ (n + 1)
    ⟨s.heap, s.toks, s.drawn, m, news, 0, rfl, hst, F, N, off1_of off, h0, Nat.zero_le _, rfl⟩
  rintro k s' ⟨h', tk, dr, m', news', i, rfl, hst', F', N', off', hJ, hi, rfl⟩
  by_cases hlt : i < n
  · refine W.item i _ _ _ hlt hst' fun v h₁ tk₁ hP hst₁ hk₁ => ?_
    have F₁ := fr_but F' hk₁ hIL hI₀
    have N₁ := news_but N' hk₁ (off1_mem off')
    refine wpAny_assign_Name (wpAny_storeName_local hx F₁.ns (fun h₂ hn₂ hs₂ => ?_) hp)
    have F₂ := F₁.set hn₂ hs₂
    have hst₂ : St (i + 1) h₂ := W.frame _ _ _ hst₁ fun b hb o e => (hs₂.2 b fun q => hLf (q ▸ hb)).trans e
    obtain ⟨oI, heI⟩ := hIo _ _ hst₂
    have N₂ : News h₀ env.locals h₂ ((I, oI) :: news') := fun p hp => by
      rcases List.mem_cons.mp hp with rfl | hp
      · exact ⟨heI, Ne.symm hIL, hI₀⟩
      · exact N₁.set hs₂ p hp
    refine turn i v m' news' oI h₂ _ dr _ _ hlt hP hJ off' F₂ N₂ fun h₃ tk₃ dr₃ m₃ news₃ F₃ N₃ off₃ hJ₃ => ?_
    have N₃' : News h₀ env.locals h₃ news₃ := fun p hp => N₃ p (List.mem_cons_of_mem _ hp)
    exact ⟨n + 1 - (i + 1), by omega, h₃, tk₃, dr₃, m₃, news₃, i + 1, rfl, hSt _ _ _ _ _ hst₂ heI (N₃ _ List.mem_cons_self).1 F₃.keep N₃' (hJS _ _ _ hJ₃), F₃, N₃', off₃, hJ₃, hlt, rfl⟩
  · have hin : i = n := by omega
    subst hin
    refine W.done _ _ _ hst' fun h₁ tk₁ hk₁ => wpAny_execs_nil ?_
    exact fin h₁ tk₁ dr m' news' (fr_but F' hk₁ hIL hI₀) (news_but N' hk₁ (off1_mem off')) hJ
theorem LpSrc.list {l : Addr} {its : Array Value} {m : Str → Option Value} {news : List (Addr × Obj)} (hh : A.handled = none) (hx : env.kindOf x = some .local)
    (hp : (env.scope.kind == .class || (env.scope.kind == .module && env.locals != env.globals)) = false) (F : Fr h₀ env.locals s.heap m) (N : News h₀ env.locals s.heap news)
    (J : Nat → (Str → Option Value) → List (Addr × Obj) → Prop) (hJS : ∀ i m' nw, J i m' nw → SrcAt h₀ l its nw) (h0 : J 0 m news)
    (turn : ∀ I, LpTurn prog w A h₀ env x body s its.size (fun i v => its[i]? = some v) J I)
    (fin : ∀ h' tk dr m' news', Fr h₀ env.locals h' m' → News h₀ env.locals h' news' → J its.size m' news' → Q .next { s with heap := h', drawn := dr, toks := tk }) :
    LpSrc prog w A env x px body Q E (.ref l) s := by
  have S := hJS _ _ _ h0
  have hl := S.list F.keep N
  have hlt : l < s.heap.objs.size := by obtain ⟨_, e, _⟩ := hl; exact Heap.lt_size e
  have hlL : l ≠ env.locals := by
    obtain ⟨o, e, hc, n, hd⟩ := hl
    obtain ⟨oL, es, ep, e', hd', _⟩ := F.ns
    intro q
    rw [q, e'] at e
    cases e
    rw [hd] at hd'
    cases hd'
  refine wpAny_pyIter_list hl ?_
  have up : ∀ b o, s.heap.get? b = some o → (s.heap.push { cls := .type "list_iterator", data := .fields #[.ref l, .int 0 0] }).get? b = some o := fun b o e => Heap.get?_push_of_some _ e
  refine lp_walk (Walks.list hh s.heap.objs.size l (Nat.ne_of_lt hlt) its) (fun i h st => by obtain ⟨o, e, _⟩ := st.1; exact ⟨o, e⟩) list_st hx hp (Nat.ne_of_lt F.ns.lt) (fun hm => ?_) (next_is_new F) (fun p hp => Nat.ne_of_lt (Heap.lt_size (N p hp).1)) ⟨⟨_, Heap.get?_push_size _ rfl, rfl, rfl⟩, hl.push _⟩
    (F.keeps up) (N.grown up) J hJS h0 (turn _) fin
  rcases List.mem_cons.mp hm with q | q
  · exact Nat.ne_of_lt F.ns.lt q
  · exact hlL (List.mem_singleton.mp q).symm
theorem LpSrc.range {r : Addr} {a b : Int} {t u v : Tok} {n : Nat} {m : Str → Option Value} {news : List (Addr × Obj)} (hh : A.handled = none) (hx : env.kindOf x = some .local)
    (hp : (env.scope.kind == .class || (env.scope.kind == .module && env.locals != env.globals)) = false) (F : Fr h₀ env.locals s.heap m) (N : News h₀ env.locals s.heap news)
    (hr : IsRange s.heap r a b 1 t u v) (hsm : Builtin.Range.small a b 1 = true) (hn : Builtin.Range.rangeSize a b 1 = ((n : Nat) : Int))
    (J : Nat → (Str → Option Value) → List (Addr × Obj) → Prop) (h0 : J 0 m news)
    (turn : ∀ I, LpTurn prog w A h₀ env x body s n (fun i v => ∃ t, v = .int (a + (i : Int)) t) J I)
    (fin : ∀ h' tk dr m' news', Fr h₀ env.locals h' m' → News h₀ env.locals h' news' → J n m' news' → Q .next { s with heap := h', drawn := dr, toks := tk }) :
    LpSrc prog w A env x px body Q E (.ref r) s := by
  refine wpAny_pyIter_range hr hsm ?_
  refine lp_walk (S := fun _ => True) (range_walks hh a n) (fun i h st => ⟨_, st⟩) range_st hx hp (Nat.ne_of_lt F.ns.lt) (fun hm => ?_) (next_is_new F) (fun p hp => Nat.ne_of_lt (Heap.lt_size (N p hp).1)) (by show IsRangeIter _ _ _ _ _; rw [hn]; simpa using Heap.get?_push_size _ rfl)
    (F.keeps fun _ _ e => Heap.get?_push_of_some _ e) (N.grown fun _ _ e => Heap.get?_push_of_some _ e) J (fun _ _ _ _ => trivial) h0 (turn _) fin
  exact Nat.ne_of_lt F.ns.lt (List.mem_singleton.mp hm)
end
/-! the comprehension without a test -/
def CpSrc (prog : Program) (w : World) (A : Around) (env : Env) (elt iter : Expr) (x : Str) (px : Pos) (scope : Scope) (cl : List (Str × Addr)) (pos : Pos) (Q : Value → Shared → Prop) (E : Value → Shared → Prop) (xv : Value) (s₁ : Shared) : Prop :=
  wpAny (model prog w) A (pyIter xv) (fun it s₂ => wpAny (model prog w) A (newList []) (fun acc s₃ => wpAny (model prog w) A (newFunctionEnv scope env.globals cl [] env.qual none .none (some env)) (fun cenv s₄ =>
    codeAny (model prog w) A (.compStart (.ListComp elt [⟨.Name x px, iter, [], 0⟩] scope pos) 0 it acc { cenv with scope := relabel scope env }) (compPost (model prog w) A E none Q acc cenv.locals) s₄) E s₃) E s₂) E s₁
def CpTurn (prog : Program) (w : World) (A : Around) (h₀ : Heap) (L : Addr) (m : Str → Option Value) (env : Env) (elt : Expr) (x : Str) (scope : Scope) (cl : List (Str × Addr)) (s : Shared) (n : Nat) (P : Nat → Value → Prop) (J : Nat → List Value → List (Addr × Obj) → Prop) : Prop :=
  ∀ i ys news₁ v I oI C oC D m₂ h tk dr (Q' : Value → Shared → Prop) (E' : Value → Shared → Prop), i < n → P i v → J i ys news₁ → NsObj oC m₂ → m₂ x = some v → Fr h₀ L h m → News h₀ L h ((I, oI) :: (C, oC) :: (D, lst ys) :: news₁) → Off3 I C D news₁ → ((@Ne Nat I C) ∧ (@Ne Nat I D) ∧ (@Ne Nat C D)) →
    (∀ y h' tk' dr' news₂, Fr h₀ L h' m → News h₀ L h' ((I, oI) :: (C, oC) :: (D, lst ys) :: news₂) → Off3 I C D news₂ → J (i + 1) (ys ++ [y]) news₂ → Q' y { s with heap := h', drawn := dr', toks := tk' }) →
    wpAny (model prog w) A (eval elt (compEnvC scope cl C env)) Q' E' { s with heap := h, drawn := dr, toks := tk }
section
variable {prog : Program} {w : World} {A : Around} {E : Value → Shared → Prop} {s : Shared} {h₀ : Heap} {L : Addr} {m : Str → Option Value} {env : Env} {elt iter : Expr} {x : Str} {px : Pos} {scope : Scope} {cl : List (Str × Addr)} {pos : Pos} {Q : Value → Shared → Prop}
theorem cp_comp (hclos : closureFor scope env = pure cl) (hkind : scope.kind = .function) (hnames : ∀ y ∈ scope.names, y.2 = .local → scope.names.lookup y.1 = some .local)
    (h : wpAny (model prog w) A (eval iter env) (CpSrc prog w A env elt iter x px scope cl pos Q E) E s) (hs : ∀ x, foldedSetIterable iter env x = pure x := by intro _; rfl) :
    wpAny (model prog w) A (eval (.ListComp elt [⟨.Name x px, iter, [], 0⟩] scope pos) env) Q E s := by
  rw [eval_ListComp]
  exact wpAny_comprehension_free (use := none) rfl hs hclos hkind hnames h
theorem CpSrc.list {l : Addr} {its : Array Value} {news : List (Addr × Obj)} (hh : A.handled = none) (hcell : ∀ y ∈ scope.names, y.2 ≠ .cell) (hkind : scope.kind = .function) (hx : scope.names.lookup x = some .local)
    (F : Fr h₀ L s.heap m) (N : News h₀ L s.heap news) (hsz : its.size ≤ sizeLine)
    (J : Nat → List Value → List (Addr × Obj) → Prop) (hJS : ∀ i ys nw, J i ys nw → SrcAt h₀ l its nw) (hJl : ∀ i ys nw, J i ys nw → ys.length ≤ i) (h0 : J 0 [] news)
    (turn : CpTurn prog w A h₀ L m env elt x scope cl s its.size (fun i v => its[i]? = some v) J)
    (fin : ∀ D ys h' tk dr news', Fr h₀ L h' m → News h₀ L h' ((D, lst ys) :: news') → Off1 D news' → J its.size ys news' → Q (.ref D) { s with heap := h', drawn := dr, toks := tk }) :
    CpSrc prog w A env elt iter x px scope cl pos Q E (.ref l) s := by
  have S := hJS _ _ _ h0
  have hl := S.list F.keep N
  have hlt : l < s.heap.objs.size := by obtain ⟨_, e, _⟩ := hl; exact Heap.lt_size e
  refine wpAny_pyIter_list hl ?_
  generalize hI : s.heap.objs.size = I at *
  have up : ∀ b o, s.heap.get? b = some o → (s.heap.push { cls := .type "list_iterator", data := .fields #[.ref l, .int 0 0] }).get? b = some o := fun b o e => Heap.get?_push_of_some _ e
  have hI₀ : h₀.get? I = none := hI ▸ next_is_new F
  have hIL : L ≠ I := hI ▸ Nat.ne_of_lt F.ns.lt
  have offI : ∀ p ∈ news, p.1 ≠ I := fun p hp => hI ▸ Nat.ne_of_lt (Heap.lt_size (N p hp).1)
  have W := Walks.list (prog := prog) (w := w) hh I l (Nat.ne_of_lt hlt) its
  have hIg : (s.heap.push { cls := .type "list_iterator", data := .fields #[.ref l, .int 0 0] }).get? I = some { cls := .type "list_iterator", data := .fields #[.ref l, .int 0 0] } := hI ▸ Heap.get?_push_size _ rfl
  have hst : (s.heap.push { cls := .type "list_iterator", data := .fields #[.ref l, .int 0 0] }).IsListIter I l 0 ∧ (s.heap.push { cls := .type "list_iterator", data := .fields #[.ref l, .int 0 0] }).IsList l its := ⟨⟨_, hIg, rfl, rfl⟩, hl.push _⟩
  have F₁ := F.keeps up
  have N₁ := N.grown up
  have hIs : I < (s.heap.push { cls := .type "list_iterator", data := .fields #[.ref l, .int 0 0] }).objs.size := by rw [Heap.size_push, hI]; exact Nat.lt_succ_self _
  have hls : l < (s.heap.push { cls := .type "list_iterator", data := .fields #[.ref l, .int 0 0] }).objs.size := by rw [Heap.size_push, hI]; exact Nat.lt_succ_of_lt hlt
  generalize s.heap.push { cls := .type "list_iterator", data := .fields #[.ref l, .int 0 0] } = H1 at *
  refine wpAny_newObj_type (wpAny_newFunctionEnv hcell (by intro y hy; simp at hy) (fun h₁ hns₁ hsb₁ => ?_) hkind)
  dsimp only at hns₁ hsb₁ ⊢
  generalize hH2 : H1.push { cls := .type "list", dict := none, data := .seq ([] : List Value).toArray } = H2 at hns₁ hsb₁ ⊢
  have hC : H2.objs.size = H1.objs.size + 1 := by rw [← hH2, Heap.size_push]
  generalize hCa : H2.objs.size = C at *
  have hnone : ∀ a, H1.objs.size ≤ a → h₀.get? a = none := fun a ha => by
    cases e : h₀.get? a with
    | none => rfl
    | some o' => exact absurd (Heap.lt_size (F₁.keep a o' e)) (Nat.not_lt.mpr ha)
  have hD₀ := hnone _ (Nat.le_refl _)
  have hC₀ := hnone C (by rw [hC]; exact Nat.le_succ _)
  have hDC : H1.objs.size ≠ C := by rw [hC]; exact Nat.ne_of_lt (Nat.lt_succ_self _)
  have below : ∀ b, b < H1.objs.size → b ≠ C ∧ b ≠ H1.objs.size := fun b hb => ⟨by rw [hC]; exact Nat.ne_of_lt (Nat.lt_succ_of_lt hb), Nat.ne_of_lt hb⟩
  have old : ∀ b o, H1.get? b = some o → h₁.get? b = some o := fun b o e => hsb₁.extBut b o (below b (Heap.lt_size e)).1 (Heap.get?_push_of_some _ (hH2 ▸ Heap.get?_push_of_some _ e))
  have hacc : h₁.get? H1.objs.size = some (lst []) := hsb₁.extBut _ _ hDC (Heap.get?_push_of_some _ (hH2 ▸ Heap.get?_push_size _ rfl))
  have hst₁ : h₁.IsListIter I l 0 ∧ h₁.IsList l its := W.frame 0 _ _ hst fun b _ o e => old b o e
  generalize hDa : H1.objs.size = D at *
  have hLD := below L (hDa ▸ F₁.ns.lt)
  have hID := below I hIs
  have hlD := below l hls
  have off₀ : Off3 I C D news := Off3.of fun p hp => ⟨offI p hp, below _ (hDa ▸ Heap.lt_size (N₁ p hp).1)⟩
  have loop : ∀ s₃ : Shared, s₃ = { s with heap := h₁, drawn := s.drawn, toks := s.toks } → codeAny (model prog w) A (.compLoop (.ListComp elt [⟨.Name x px, iter, [], 0⟩] scope pos) 0 (.ref I) (.ref D) (compEnvC scope cl C env)) (compPost (model prog w) A E none Q (.ref D) C) s₃ := by
    rintro s₃ rfl
    refine codeAny_compLoop_list
      (fun k s' => ∃ h' tk dr i ys m' news', s' = { s with heap := h', drawn := dr, toks := tk } ∧ i ≤ its.size ∧ k = its.size + 1 - i ∧ (h'.IsListIter I l i ∧ h'.IsList l its) ∧ Fr h₀ L h' m ∧ h'.Ns C m' ∧ News h₀ L h' ((D, lst ys) :: news') ∧ Off3 I C D news' ∧ J i ys news') ?_ (its.size + 1)
      ⟨h₁, _, _, 0, [], _, news, rfl, Nat.zero_le _, rfl, hst₁, F₁.keeps old, hns₁, fun p hp => ?_, off₀, h0⟩
    · rintro k s' ⟨h', tk, dr, i, ys, m', news', rfl, hi, rfl, hst', F', hn', N', off', hJ⟩
      have off3 := off'.mem
      have offD : ∀ p ∈ (D, lst ys) :: news', p.1 ≠ I := fun p hp => by
        rcases List.mem_cons.mp hp with rfl | hp
        · exact Ne.symm hID.2
        · exact (off3 p hp).1
      by_cases hlt' : i < its.size
      · refine W.item i _ _ _ hlt' hst' fun v h₂ tk₂ hPv hst₂ hk₂ => ?_
        refine wpAny_assign_Name (wpAny_storeName_local (lookup_relabel_local hx) (hn'.at' fun o e => hk₂ _ o (by simpa using Ne.symm hID.1) e) (fun h₃ hn₃ hs₃ => ?_) (by simp [compEnvC, relabel, hkind]))
        have hst₃ : h₃.IsListIter I l (i + 1) ∧ h₃.IsList l its := W.frame _ _ _ hst₂ fun b hb o e => hs₃.extBut b o (fun q => by
          have q' : b = C := q
          rcases List.mem_cons.mp hb with r | r
          · exact hID.1 (r ▸ q')
          · exact hlD.1 ((List.mem_singleton.mp r) ▸ q')) e
        obtain ⟨oI, heI⟩ : ∃ o, h₃.get? I = some o := by obtain ⟨o, e, _⟩ := hst₃.1; exact ⟨o, e⟩
        obtain ⟨oC, heC, hoC⟩ := ns_obj hn₃
        have F₃ : Fr h₀ L h₃ m := (fr_but F' hk₂ hIL hI₀).change hs₃ (Ne.symm hLD.1) hC₀
        have N₂ := news_but N' hk₂ offD
        have N₃ : News h₀ L h₃ ((I, oI) :: (C, oC) :: (D, lst ys) :: news') := fun p hp => by
          rcases List.mem_cons.mp hp with rfl | hp
          · exact ⟨heI, Ne.symm hIL, hI₀⟩
          · rcases List.mem_cons.mp hp with rfl | hp
            · exact ⟨heC, Ne.symm hLD.1, hC₀⟩
            · refine ⟨hs₃.extBut _ _ ?_ (N₂ p hp).1, (N₂ p hp).2⟩
              rcases List.mem_cons.mp hp with rfl | hp
              · exact hDC
              · exact (off3 p hp).2.1
        refine turn i ys news' v I oI C oC D _ h₃ _ dr _ _ hlt' hPv hJ hoC (by simp) F₃ N₃ off' ⟨hID.1, hID.2, Ne.symm hDC⟩ fun y h₄ tk₄ dr₄ news₄ F₄ N₄ off₄ hJ₄ => ?_
        have zI := (N₄ (I, oI) List.mem_cons_self).1
        have zC := (N₄ (C, oC) (List.mem_cons_of_mem _ List.mem_cons_self)).1
        have zD := (N₄ (D, lst ys) (List.mem_cons_of_mem _ (List.mem_cons_of_mem _ List.mem_cons_self))).1
        have N₄' : News h₀ L h₄ news₄ := fun p hp => N₄ p (List.mem_cons_of_mem _ (List.mem_cons_of_mem _ (List.mem_cons_of_mem _ hp)))
        have hst₄ := list_st _ _ _ _ _ hst₃ heI zI F₄.keep N₄' (hJS _ _ _ hJ₄)
        have hyl := hJl _ _ _ hJ
        refine append_at (hsz := by show ys.toArray.size ≤ sizeLine; rw [List.size_toArray]; omega) zD fun h₅ hs₅ hD₅ => ?_
        have off4 := off₄.mem
        refine ⟨its.size + 1 - (i + 1), by omega, h₅, tk₄, dr₄, i + 1, ys ++ [y], _, news₄, rfl, hlt', rfl, W.frame _ _ _ hst₄ fun b hb o e => hs₅.extBut b o (fun q => ?_) e, F₄.change hs₅ (Ne.symm hLD.2) hD₀, (hoC.ns zC).sameBut hs₅ (Ne.symm hDC), fun p hp => ?_, off₄, hJ₄⟩
        · rcases List.mem_cons.mp hb with r | r
          · exact hID.2 (r ▸ q)
          · exact hlD.2 ((List.mem_singleton.mp r) ▸ q)
        · rcases List.mem_cons.mp hp with rfl | hp
          · exact ⟨hD₅.trans (congrArg some (lst_snoc ys y)), Ne.symm hLD.2, hD₀⟩
          · exact ⟨hs₅.extBut _ _ (off4 p hp).2.2 (N₄' p hp).1, (N₄' p hp).2⟩
      · obtain rfl : i = its.size := Nat.le_antisymm hi (Nat.not_lt.mp hlt')
        refine W.done _ _ _ hst' fun h₂ tk₂ hk₂ => ?_
        have N₂ := news_but N' hk₂ offD
        refine ⟨m', hn'.at' fun o e => hk₂ _ o (by simpa using Ne.symm hID.1) e, fun h'' hs'' => fin D ys h'' tk₂ dr news' ((fr_but F' hk₂ hIL hI₀).change hs'' (Ne.symm hLD.1) hC₀) (fun p hp => ?_) off'.one hJ⟩
        refine ⟨hs''.extBut _ _ ?_ (N₂ p hp).1, (N₂ p hp).2⟩
        rcases List.mem_cons.mp hp with rfl | hp
        · exact hDC
        · exact (off3 p hp).2.1
    · rcases List.mem_cons.mp hp with rfl | hp
      · exact ⟨hacc, Ne.symm hLD.2, hD₀⟩
      · exact ⟨old _ _ (N₁ p hp).1, (N₁ p hp).2⟩
  exact codeAny_compStart_list (loop _ rfl) (W.self 0 _ _ _ hst₁ (loop _ rfl))
end
section
variable {prog : Program} {w : World} {A : Around} {E : Value → Shared → Prop} {s : Shared} {env : Env} {h₀ : Heap} {x z : Str} {px pos : Pos} {body : List Stmt} {Q : Flow → Shared → Prop}
theorem fr_congr {h₀ h : Heap} {L : Addr} {m m' : Str → Option Value} (F : Fr h₀ L h m) (e : ∀ y, m y = m' y) : Fr h₀ L h m' := (funext e : m = m') ▸ F
/-- one turn where the body may set z besides the loop's own name -/
def LpTurnM (prog : Program) (w : World) (A : Around) (h₀ : Heap) (env : Env) (x z : Str) (m : Str → Option Value) (body : List Stmt) (s : Shared) (n : Nat) (P : Nat → Value → Prop) (J : Nat → List (Addr × Obj) → Prop) : Prop :=
  ∀ I i v vz news₁ oI h tk dr (Q' : Flow → Shared → Prop) (E' : Value → Shared → Prop), i < n → P i v → J i news₁ → Off1 I news₁ →
    Fr h₀ env.locals h (fun y => if y = x then some v else if y = z then vz else m y) → News h₀ env.locals h ((I, oI) :: news₁) →
    (∀ h' tk' dr' vx vz' news₂, Fr h₀ env.locals h' (fun y => if y = x then vx else if y = z then vz' else m y) → News h₀ env.locals h' ((I, oI) :: news₂) → Off1 I news₂ → J (i + 1) news₂ → Q' .next { s with heap := h', drawn := dr', toks := tk' }) →
    wpAny (model prog w) A (execs body env) Q' E' { s with heap := h, drawn := dr, toks := tk }
def MapM (x z : Str) (m m' : Str → Option Value) : Prop := ∃ vx vz, ∀ y, m' y = if y = x then vx else if y = z then vz else m y
theorem mapM_self {x z : Str} {m : Str → Option Value} : MapM x z m m := ⟨m x, m z, fun y => by
  by_cases h : y = x
  · rw [if_pos h, h]
  · rw [if_neg h]
    by_cases h' : y = z
    · rw [if_pos h', h']
    · rw [if_neg h']⟩
theorem turnM {n : Nat} {P : Nat → Value → Prop} {m : Str → Option Value} {J : Nat → List (Addr × Obj) → Prop} (t : LpTurnM prog w A h₀ env x z m body s n P J) (I : Addr) :
    LpTurn prog w A h₀ env x body s n P (fun i m' nw => MapM x z m m' ∧ J i nw) I := by
  intro i v m₁ news₁ oI h tk dr Q' E' hi hP hJ off F N k
  obtain ⟨⟨vx, vz, hm⟩, hJ⟩ := hJ
  refine t I i v vz news₁ oI h tk dr Q' E' hi hP hJ off (fr_congr F fun y => ?_) N fun h' tk' dr' vx' vz' news₂ F' N' off' hJ' => k h' tk' dr' _ news₂ F' N' off' ⟨⟨vx', vz', fun _ => rfl⟩, hJ'⟩
  by_cases hx : y = x
  · rw [if_pos hx, if_pos hx]
  · rw [if_neg hx, if_neg hx, hm, if_neg hx]
theorem LpSrc.listM {l : Addr} {its : Array Value} {m : Str → Option Value} {news : List (Addr × Obj)} (hh : A.handled = none) (hx : env.kindOf x = some .local)
    (hp : (env.scope.kind == .class || (env.scope.kind == .module && env.locals != env.globals)) = false) (F : Fr h₀ env.locals s.heap m) (N : News h₀ env.locals s.heap news)
    (z : Str) (J : Nat → List (Addr × Obj) → Prop) (hJS : ∀ i nw, J i nw → SrcAt h₀ l its nw) (h0 : J 0 news)
    (turn : LpTurnM prog w A h₀ env x z m body s its.size (fun i v => its[i]? = some v) J)
    (fin : ∀ h' tk dr vx vz news', Fr h₀ env.locals h' (fun y => if y = x then vx else if y = z then vz else m y) → News h₀ env.locals h' news' → J its.size news' → Q .next { s with heap := h', drawn := dr, toks := tk }) :
    LpSrc prog w A env x px body Q E (.ref l) s :=
  LpSrc.list hh hx hp F N (fun i m' nw => MapM x z m m' ∧ J i nw) (fun i m' nw h => hJS i nw h.2) ⟨mapM_self, h0⟩ (turnM turn) fun h' tk dr m' news' F' N' hJ => by
    obtain ⟨⟨vx, vz, hm⟩, hJ⟩ := hJ
    exact fin h' tk dr vx vz news' (fr_congr F' hm) N' hJ
theorem LpSrc.rangeM {r : Addr} {a b : Int} {t u v : Tok} {n : Nat} {m : Str → Option Value} {news : List (Addr × Obj)} (hh : A.handled = none) (hx : env.kindOf x = some .local)
    (hp : (env.scope.kind == .class || (env.scope.kind == .module && env.locals != env.globals)) = false) (F : Fr h₀ env.locals s.heap m) (N : News h₀ env.locals s.heap news)
    (hr : IsRange s.heap r a b 1 t u v) (hsm : Builtin.Range.small a b 1 = true) (hn : Builtin.Range.rangeSize a b 1 = ((n : Nat) : Int))
    (z : Str) (J : Nat → List (Addr × Obj) → Prop) (h0 : J 0 news)
    (turn : LpTurnM prog w A h₀ env x z m body s n (fun i v => ∃ t, v = .int (a + (i : Int)) t) J)
    (fin : ∀ h' tk dr vx vz news', Fr h₀ env.locals h' (fun y => if y = x then vx else if y = z then vz else m y) → News h₀ env.locals h' news' → J n news' → Q .next { s with heap := h', drawn := dr, toks := tk }) :
    LpSrc prog w A env x px body Q E (.ref r) s :=
  LpSrc.range hh hx hp F N hr hsm hn (fun i m' nw => MapM x z m m' ∧ J i nw) ⟨mapM_self, h0⟩ (turnM turn) fun h' tk dr m' news' F' N' hJ => by
    obtain ⟨⟨vx, vz, hm⟩, hJ⟩ := hJ
    exact fin h' tk dr vx vz news' (fr_congr F' hm) N' hJ
end
end PartLp
section PartLp2
open PyProof.Rows.LCg
section
variable {prog : Program} {w : World} {A : Around} {E : Value → Shared → Prop} {s : Shared} {env : Env} {h₀ : Heap} {x : Str} {px pos : Pos} {body : List Stmt} {Q : Flow → Shared → Prop}
/-- one turn of a loop, the store of its name included; the state may have drawn -/
def LpTurnS (prog : Program) (w : World) (A : Around) (h₀ : Heap) (env : Env) (x : Str) (body : List Stmt) (s : Shared) (n : Nat) (P : Nat → Value → Prop) (J : Nat → (Str → Option Value) → List (Addr × Obj) → Prop) : Prop :=
  ∀ I i v m₁ news₁ oI h tk dr (Q' : Flow → Shared → Prop) (E' : Value → Shared → Prop), i < n → P i v → J i m₁ news₁ → Off1 I news₁ →
    Fr h₀ env.locals h m₁ → News h₀ env.locals h ((I, oI) :: news₁) →
    (∀ h' tk' dr' m₂ news₂, Fr h₀ env.locals h' m₂ → News h₀ env.locals h' ((I, oI) :: news₂) → Off1 I news₂ → J (i + 1) m₂ news₂ → Q' .next { s with heap := h', drawn := dr', toks := tk' }) →
    wpAny (model prog w) A (storeName env x v) (fun _ s₂ => wpAny (model prog w) A (execs body env) Q' E' s₂) E' { s with heap := h, drawn := dr, toks := tk }
theorem lp_walkS {R : Result → Shared → Prop} {I : Addr} {fp : List Addr} {n : Nat} {P : Nat → Value → Prop} {St : Nat → Heap → Prop} {S : List (Addr × Obj) → Prop} {m : Str → Option Value} {news : List (Addr × Obj)}
    (W : Walks prog w A I fp [I] n P St) (hIo : ∀ i h, St i h → ∃ o, h.get? I = some o)
    (hSt : ∀ i h h' o nw, St i h → h.get? I = some o → h'.get? I = some o → (∀ b o, h₀.get? b = some o → h'.get? b = some o) → News h₀ env.locals h' nw → S nw → St i h')
    (hIL : env.locals ≠ I) (hI₀ : h₀.get? I = none) (off : ∀ p ∈ news, p.1 ≠ I) (hst : St 0 s.heap) (F : Fr h₀ env.locals s.heap m) (N : News h₀ env.locals s.heap news)
    (J : Nat → (Str → Option Value) → List (Addr × Obj) → Prop) (hJS : ∀ i m' nw, J i m' nw → S nw) (h0 : J 0 m news)
    (turn : LpTurnS prog w A h₀ env x body s n P J)
    (fin : ∀ h' tk dr m' news', Fr h₀ env.locals h' m' → News h₀ env.locals h' news' → J n m' news' → R (.ok .next) { s with heap := h', drawn := dr, toks := tk }) :
    codeAny (model prog w) A (.forLoop (.Name x px) (.ref I) body [] env) R s := by
  refine codeAny_forLoop
    (fun k s' => ∃ h' tk dr m' news' i, s' = { s with heap := h', drawn := dr, toks := tk } ∧ St i h' ∧ Fr h₀ env.locals h' m' ∧ News h₀ env.locals h' news' ∧ Off1 I news' ∧ J i m' news' ∧ i ≤ n ∧ k = n + 1 - i) ?_ (n + 1)
    ⟨s.heap, s.toks, s.drawn, m, news, 0, rfl, hst, F, N, off1_of off, h0, Nat.zero_le _, rfl⟩
  rintro k s' ⟨h', tk, dr, m', news', i, rfl, hst', F', N', off', hJ, hi, rfl⟩
  by_cases hlt : i < n
  · refine W.item i _ _ _ hlt hst' fun v h₁ tk₁ hP hst₁ hk₁ => ?_
    have F₁ := fr_but F' hk₁ hIL hI₀
    have N₁ := news_but N' hk₁ (off1_mem off')
    obtain ⟨oI, heI⟩ := hIo _ _ hst₁
    have N₂ : News h₀ env.locals h₁ ((I, oI) :: news') := fun p hp => by
      rcases List.mem_cons.mp hp with rfl | hp
      · exact ⟨heI, Ne.symm hIL, hI₀⟩
      · exact N₁ p hp
    refine wpAny_assign_Name (turn I i v m' news' oI h₁ _ dr _ _ hlt hP hJ off' F₁ N₂ fun h₃ tk₃ dr₃ m₃ news₃ F₃ N₃ off₃ hJ₃ => ?_)
    have N₃' : News h₀ env.locals h₃ news₃ := fun p hp => N₃ p (List.mem_cons_of_mem _ hp)
    exact ⟨n + 1 - (i + 1), by omega, h₃, tk₃, dr₃, m₃, news₃, i + 1, rfl, hSt _ _ _ _ _ hst₁ heI (N₃ _ List.mem_cons_self).1 F₃.keep N₃' (hJS _ _ _ hJ₃), F₃, N₃', off₃, hJ₃, hlt, rfl⟩
  · have hin : i = n := by omega
    subst hin
    refine W.done _ _ _ hst' fun h₁ tk₁ hk₁ => wpAny_execs_nil ?_
    exact fin h₁ tk₁ dr m' news' (fr_but F' hk₁ hIL hI₀) (news_but N' hk₁ (off1_mem off')) hJ
theorem LpSrc.listS {l : Addr} {its : Array Value} {m : Str → Option Value} {news : List (Addr × Obj)} (hh : A.handled = none) (F : Fr h₀ env.locals s.heap m) (N : News h₀ env.locals s.heap news)
    (J : Nat → (Str → Option Value) → List (Addr × Obj) → Prop) (hJS : ∀ i m' nw, J i m' nw → SrcAt h₀ l its nw) (h0 : J 0 m news)
    (turn : LpTurnS prog w A h₀ env x body s its.size (fun i v => its[i]? = some v) J)
    (fin : ∀ h' tk dr m' news', Fr h₀ env.locals h' m' → News h₀ env.locals h' news' → J its.size m' news' → Q .next { s with heap := h', drawn := dr, toks := tk }) :
    LpSrc prog w A env x px body Q E (.ref l) s := by
  have S := hJS _ _ _ h0
  have hl := S.list F.keep N
  have hlt : l < s.heap.objs.size := by obtain ⟨_, e, _⟩ := hl; exact Heap.lt_size e
  refine wpAny_pyIter_list hl ?_
  have up : ∀ b o, s.heap.get? b = some o → (s.heap.push { cls := .type "list_iterator", data := .fields #[.ref l, .int 0 0] }).get? b = some o := fun b o e => Heap.get?_push_of_some _ e
  exact lp_walkS (Walks.list hh s.heap.objs.size l (Nat.ne_of_lt hlt) its) (fun i h st => by obtain ⟨o, e, _⟩ := st.1; exact ⟨o, e⟩) list_st (Nat.ne_of_lt F.ns.lt) (next_is_new F) (fun p hp => Nat.ne_of_lt (Heap.lt_size (N p hp).1)) ⟨⟨_, Heap.get?_push_size _ rfl, rfl, rfl⟩, hl.push _⟩
    (F.keeps up) (N.grown up) J hJS h0 turn fin
theorem LpSrc.rangeS {r : Addr} {a b : Int} {t u v : Tok} {n : Nat} {m : Str → Option Value} {news : List (Addr × Obj)} (hh : A.handled = none) (F : Fr h₀ env.locals s.heap m) (N : News h₀ env.locals s.heap news)
    (hr : IsRange s.heap r a b 1 t u v) (hsm : Builtin.Range.small a b 1 = true) (hn : Builtin.Range.rangeSize a b 1 = ((n : Nat) : Int))
    (J : Nat → (Str → Option Value) → List (Addr × Obj) → Prop) (h0 : J 0 m news)
    (turn : LpTurnS prog w A h₀ env x body s n (fun i v => ∃ t, v = .int (a + (i : Int)) t) J)
    (fin : ∀ h' tk dr m' news', Fr h₀ env.locals h' m' → News h₀ env.locals h' news' → J n m' news' → Q .next { s with heap := h', drawn := dr, toks := tk }) :
    LpSrc prog w A env x px body Q E (.ref r) s := by
  refine wpAny_pyIter_range hr hsm ?_
  exact lp_walkS (S := fun _ => True) (range_walks hh a n) (fun i h st => ⟨_, st⟩) range_st (Nat.ne_of_lt F.ns.lt) (next_is_new F) (fun p hp => Nat.ne_of_lt (Heap.lt_size (N p hp).1)) (by show IsRangeIter _ _ _ _ _; rw [hn]; simpa using Heap.get?_push_size _ rfl)
    (F.keeps fun _ _ e => Heap.get?_push_of_some _ e) (N.grown fun _ _ e => Heap.get?_push_of_some _ e) J (fun _ _ _ _ => trivial) h0 turn fin
end
/-! the comprehension without a test, over a range -/
section
variable {prog : Program} {w : World} {A : Around} {E : Value → Shared → Prop} {s : Shared} {h₀ : Heap} {L : Addr} {m : Str → Option Value} {env : Env} {elt iter : Expr} {x : Str} {px : Pos} {scope : Scope} {cl : List (Str × Addr)} {pos : Pos} {Q : Value → Shared → Prop}
theorem CpSrc.range {r : Addr} {a b : Int} {t u v : Tok} {n : Nat} {news : List (Addr × Obj)} (hh : A.handled = none) (hcell : ∀ y ∈ scope.names, y.2 ≠ .cell) (hkind : scope.kind = .function) (hx : scope.names.lookup x = some .local)
    (F : Fr h₀ L s.heap m) (N : News h₀ L s.heap news) (hr : IsRange s.heap r a b 1 t u v) (hsm : Builtin.Range.small a b 1 = true) (hn : Builtin.Range.rangeSize a b 1 = ((n : Nat) : Int)) (hsz : n ≤ sizeLine)
    (J : Nat → List Value → List (Addr × Obj) → Prop) (hJl : ∀ i ys nw, J i ys nw → ys.length ≤ i) (h0 : J 0 [] news)
    (turn : CpTurn prog w A h₀ L m env elt x scope cl s n (fun i v => ∃ t, v = .int (a + (i : Int)) t) J)
    (fin : ∀ D ys h' tk dr news', Fr h₀ L h' m → News h₀ L h' ((D, lst ys) :: news') → Off1 D news' → J n ys news' → Q (.ref D) { s with heap := h', drawn := dr, toks := tk }) :
    CpSrc prog w A env elt iter x px scope cl pos Q E (.ref r) s := by
  refine wpAny_pyIter_range hr hsm ?_
  rw [hn]
  generalize hob : ({ cls := .type "range_iterator", data := _ } : Obj) = ob
  have hst : IsRangeIter (s.heap.push ob) s.heap.objs.size (a + ((0 : Nat) : Int) * 1) ((n : Int) - ((0 : Nat) : Int)) 1 := by
    show (s.heap.push ob).get? _ = some _
    rw [Heap.get?_push_size _ (by rw [← hob]; rfl), ← hob]
    simp
  generalize hI : s.heap.objs.size = I at *
  have up : ∀ b o, s.heap.get? b = some o → (s.heap.push ob).get? b = some o := fun b o e => Heap.get?_push_of_some _ e
  have hI₀ : h₀.get? I = none := hI ▸ next_is_new F
  have hIL : L ≠ I := hI ▸ Nat.ne_of_lt F.ns.lt
  have offI : ∀ p ∈ news, p.1 ≠ I := fun p hp => hI ▸ Nat.ne_of_lt (Heap.lt_size (N p hp).1)
  have W := range_walks (prog := prog) (w := w) (I := I) hh a n
  have F₁ := F.keeps up
  have N₁ := N.grown up
  have hIs : I < (s.heap.push ob).objs.size := by rw [Heap.size_push, hI]; exact Nat.lt_succ_self _
  generalize s.heap.push ob = H1 at *
  refine wpAny_newObj_type (wpAny_newFunctionEnv hcell (by intro y hy; simp at hy) (fun h₁ hns₁ hsb₁ => ?_) hkind)
  dsimp only at hns₁ hsb₁ ⊢
  generalize hH2 : H1.push { cls := .type "list", dict := none, data := .seq ([] : List Value).toArray } = H2 at hns₁ hsb₁ ⊢
  have hC : H2.objs.size = H1.objs.size + 1 := by rw [← hH2, Heap.size_push]
  generalize hCa : H2.objs.size = C at *
  have hnone : ∀ a, H1.objs.size ≤ a → h₀.get? a = none := fun a ha => by
    cases e : h₀.get? a with
    | none => rfl
    | some o' => exact absurd (Heap.lt_size (F₁.keep a o' e)) (Nat.not_lt.mpr ha)
  have hD₀ := hnone _ (Nat.le_refl _)
  have hC₀ := hnone C (by rw [hC]; exact Nat.le_succ _)
  have hDC : H1.objs.size ≠ C := by rw [hC]; exact Nat.ne_of_lt (Nat.lt_succ_self _)
  have below : ∀ b, b < H1.objs.size → b ≠ C ∧ b ≠ H1.objs.size := fun b hb => ⟨by rw [hC]; exact Nat.ne_of_lt (Nat.lt_succ_of_lt hb), Nat.ne_of_lt hb⟩
  have old : ∀ b o, H1.get? b = some o → h₁.get? b = some o := fun b o e => hsb₁.extBut b o (below b (Heap.lt_size e)).1 (Heap.get?_push_of_some _ (hH2 ▸ Heap.get?_push_of_some _ e))
  have hacc : h₁.get? H1.objs.size = some (lst []) := hsb₁.extBut _ _ hDC (Heap.get?_push_of_some _ (hH2 ▸ Heap.get?_push_size _ rfl))
  have hst₁ := W.frame 0 _ _ hst fun b _ o e => old b o e
  generalize hDa : H1.objs.size = D at *
  have hLD := below L (hDa ▸ F₁.ns.lt)
  have hID := below I hIs
  have off₀ : Off3 I C D news := Off3.of fun p hp => ⟨offI p hp, below _ (hDa ▸ Heap.lt_size (N₁ p hp).1)⟩
  have loop : ∀ s₃ : Shared, s₃ = { s with heap := h₁, drawn := s.drawn, toks := s.toks } → codeAny (model prog w) A (.compLoop (.ListComp elt [⟨.Name x px, iter, [], 0⟩] scope pos) 0 (.ref I) (.ref D) (compEnvC scope cl C env)) (compPost (model prog w) A E none Q (.ref D) C) s₃ := by
    rintro s₃ rfl
    refine codeAny_compLoop_list
      (fun k s' => ∃ h' tk dr i ys m' news', s' = { s with heap := h', drawn := dr, toks := tk } ∧ i ≤ n ∧ k = n + 1 - i ∧ (IsRangeIter h' I (a + (i : Nat) * 1) ((n : Int) - (i : Nat)) 1) ∧ Fr h₀ L h' m ∧ h'.Ns C m' ∧ News h₀ L h' ((D, lst ys) :: news') ∧ Off3 I C D news' ∧ J i ys news') ?_ (n + 1)
      ⟨h₁, _, _, 0, [], _, news, rfl, Nat.zero_le _, rfl, hst₁, F₁.keeps old, hns₁, fun p hp => ?_, off₀, h0⟩
    · rintro k s' ⟨h', tk, dr, i, ys, m', news', rfl, hi, rfl, hst', F', hn', N', off', hJ⟩
      have off3 := off'.mem
      have offD : ∀ p ∈ (D, lst ys) :: news', p.1 ≠ I := fun p hp => by
        rcases List.mem_cons.mp hp with rfl | hp
        · exact Ne.symm hID.2
        · exact (off3 p hp).1
      by_cases hlt' : i < n
      · refine W.item i _ _ _ hlt' hst' fun v h₂ tk₂ hPv hst₂ hk₂ => ?_
        refine wpAny_assign_Name (wpAny_storeName_local (lookup_relabel_local hx) (hn'.at' fun o e => hk₂ _ o (by simpa using Ne.symm hID.1) e) (fun h₃ hn₃ hs₃ => ?_) (by simp [compEnvC, relabel, hkind]))
        have hst₃ := W.frame _ _ _ hst₂ fun b hb o e => hs₃.extBut b o (fun q => by
          have q' : b = C := q
          exact hID.1 ((List.mem_singleton.mp hb) ▸ q')) e
        obtain ⟨oI, heI⟩ : ∃ o, h₃.get? I = some o := ⟨_, hst₃⟩
        obtain ⟨oC, heC, hoC⟩ := ns_obj hn₃
        have F₃ : Fr h₀ L h₃ m := (fr_but F' hk₂ hIL hI₀).change hs₃ (Ne.symm hLD.1) hC₀
        have N₂ := news_but N' hk₂ offD
        have N₃ : News h₀ L h₃ ((I, oI) :: (C, oC) :: (D, lst ys) :: news') := fun p hp => by
          rcases List.mem_cons.mp hp with rfl | hp
          · exact ⟨heI, Ne.symm hIL, hI₀⟩
          · rcases List.mem_cons.mp hp with rfl | hp
            · exact ⟨heC, Ne.symm hLD.1, hC₀⟩
            · refine ⟨hs₃.extBut _ _ ?_ (N₂ p hp).1, (N₂ p hp).2⟩
              rcases List.mem_cons.mp hp with rfl | hp
              · exact hDC
              · exact (off3 p hp).2.1
        refine turn i ys news' v I oI C oC D _ h₃ _ dr _ _ hlt' hPv hJ hoC (by simp) F₃ N₃ off' ⟨hID.1, hID.2, Ne.symm hDC⟩ fun y h₄ tk₄ dr₄ news₄ F₄ N₄ off₄ hJ₄ => ?_
        have zI := (N₄ (I, oI) List.mem_cons_self).1
        have zC := (N₄ (C, oC) (List.mem_cons_of_mem _ List.mem_cons_self)).1
        have zD := (N₄ (D, lst ys) (List.mem_cons_of_mem _ (List.mem_cons_of_mem _ List.mem_cons_self))).1
        have N₄' : News h₀ L h₄ news₄ := fun p hp => N₄ p (List.mem_cons_of_mem _ (List.mem_cons_of_mem _ (List.mem_cons_of_mem _ hp)))
        have hst₄ := range_st (h₀ := h₀) (L := L) _ _ _ _ _ hst₃ heI zI F₄.keep N₄' trivial
        have hyl := hJl _ _ _ hJ
        refine append_at (hsz := by show ys.toArray.size ≤ sizeLine; rw [List.size_toArray]; omega) zD fun h₅ hs₅ hD₅ => ?_
        have off4 := off₄.mem
        refine ⟨n + 1 - (i + 1), by omega, h₅, tk₄, dr₄, i + 1, ys ++ [y], _, news₄, rfl, hlt', rfl, W.frame _ _ _ hst₄ fun b hb o e => hs₅.extBut b o (fun q => ?_) e, F₄.change hs₅ (Ne.symm hLD.2) hD₀, (hoC.ns zC).sameBut hs₅ (Ne.symm hDC), fun p hp => ?_, off₄, hJ₄⟩
        · exact hID.2 ((List.mem_singleton.mp hb) ▸ q)
        · rcases List.mem_cons.mp hp with rfl | hp
          · exact ⟨hD₅.trans (congrArg some (lst_snoc ys y)), Ne.symm hLD.2, hD₀⟩
          · exact ⟨hs₅.extBut _ _ (off4 p hp).2.2 (N₄' p hp).1, (N₄' p hp).2⟩
      · obtain rfl : i = n := Nat.le_antisymm hi (Nat.not_lt.mp hlt')
        refine W.done _ _ _ hst' fun h₂ tk₂ hk₂ => ?_
        have N₂ := news_but N' hk₂ offD
        refine ⟨m', hn'.at' fun o e => hk₂ _ o (by simpa using Ne.symm hID.1) e, fun h'' hs'' => fin D ys h'' tk₂ dr news' ((fr_but F' hk₂ hIL hI₀).change hs'' (Ne.symm hLD.1) hC₀) (fun p hp => ?_) off'.one hJ⟩
        refine ⟨hs''.extBut _ _ ?_ (N₂ p hp).1, (N₂ p hp).2⟩
        rcases List.mem_cons.mp hp with rfl | hp
        · exact hDC
        · exact (off3 p hp).2.1
    · rcases List.mem_cons.mp hp with rfl | hp
      · exact ⟨hacc, Ne.symm hLD.2, hD₀⟩
      · exact ⟨old _ _ (N₁ p hp).1, (N₁ p hp).2⟩
  exact codeAny_compStart_list (loop _ rfl) (W.self 0 _ _ _ hst₁ (loop _ rfl))
end
/-! the comprehension over pairs with a test -/
def CtSrc (prog : Program) (w : World) (A : Around) (env : Env) (elt iter c : Expr) (a b : Str) (pa pb tp : Pos) (kk : Nat) (scope : Scope) (cl : List (Str × Addr)) (pos : Pos) (Q : Value → Shared → Prop) (E : Value → Shared → Prop) (xv : Value) (s₁ : Shared) : Prop :=
  wpAny (model prog w) A (pyIter xv) (fun it s₂ => wpAny (model prog w) A (newList []) (fun acc s₃ => wpAny (model prog w) A (newFunctionEnv scope env.globals cl [] env.qual none .none (some env)) (fun cenv s₄ =>
    codeAny (model prog w) A (.compStart (.ListComp elt [⟨.Tuple [.Name a pa, .Name b pb] kk tp, iter, [c], 0⟩] scope pos) 0 it acc { cenv with scope := relabel scope env }) (compPost (model prog w) A E none Q acc cenv.locals) s₄) E s₃) E s₂) E s₁
def CtTurn (prog : Program) (w : World) (A : Around) (h₀ : Heap) (L : Addr) (m : Str → Option Value) (env : Env) (elt c : Expr) (a b : Str) (scope : Scope) (cl : List (Str × Addr)) (s : Shared) (n : Nat) (P : Nat → Addr → Value → Value → Prop) (news : List (Addr × Obj)) (J : Nat → List Value → Prop) : Prop :=
  ∀ i ys v₁ v₂ t I oI C oC D m₂ h tk (R1 : Value → Shared → Prop) (R2 : Shared → Prop) (E' : Value → Shared → Prop), i < n → P i t v₁ v₂ → J i ys → NsObj oC m₂ → m₂ a = some v₁ → m₂ b = some v₂ → Fr h₀ L h m → News h₀ L h ((I, oI) :: (C, oC) :: (D, lst ys) :: news) → Off3 I C D news → ((@Ne Nat I C) ∧ (@Ne Nat I D) ∧ (@Ne Nat C D)) →
    (∀ y tk', J (i + 1) (ys ++ [y]) → R1 y { s with heap := h, toks := tk' }) → (∀ tk', J (i + 1) ys → R2 { s with heap := h, toks := tk' }) →
    wpAny (model prog w) A (isTrue c (compEnvC scope cl C env) (eval c (compEnvC scope cl C env))) (fun ok s' => if ok = true then wpAny (model prog w) A (eval elt (compEnvC scope cl C env)) R1 E' s' else R2 s') E' { s with heap := h, toks := tk }
section
variable {prog : Program} {w : World} {A : Around} {E : Value → Shared → Prop} {s : Shared} {h₀ : Heap} {L : Addr} {m : Str → Option Value} {env : Env} {elt iter c : Expr} {a b : Str} {pa pb tp : Pos} {kk : Nat} {scope : Scope} {cl : List (Str × Addr)} {pos : Pos} {Q : Value → Shared → Prop}
theorem ct_comp (hclos : closureFor scope env = pure cl) (hkind : scope.kind = .function) (hnames : ∀ y ∈ scope.names, y.2 = .local → scope.names.lookup y.1 = some .local)
    (h : wpAny (model prog w) A (eval iter env) (CtSrc prog w A env elt iter c a b pa pb tp kk scope cl pos Q E) E s) (hs : ∀ x, foldedSetIterable iter env x = pure x := by intro _; rfl) :
    wpAny (model prog w) A (eval (.ListComp elt [⟨.Tuple [.Name a pa, .Name b pb] kk tp, iter, [c], 0⟩] scope pos) env) Q E s := by
  rw [eval_ListComp]
  exact wpAny_comprehension_free (use := none) rfl hs hclos hkind hnames h
theorem CtSrc.list {l : Addr} {its : Array Value} {news : List (Addr × Obj)} {P : Nat → Addr → Value → Value → Prop} (hh : A.handled = none) (hcell : ∀ y ∈ scope.names, y.2 ≠ .cell) (hkind : scope.kind = .function) (hxa : scope.names.lookup a = some .local) (hxb : scope.names.lookup b = some .local) (hab : ¬ a = b)
    (F : Fr h₀ L s.heap m) (N : News h₀ L s.heap news) (hsz : its.size ≤ sizeLine) (S : SrcAt h₀ l its news)
    (hP : ∀ i v, its[i]? = some v → ∃ t v₁ v₂ nt, v = .ref t ∧ (t, ({ cls := .type "tuple", data := .seq #[v₁, v₂] nt } : Obj)) ∈ news ∧ P i t v₁ v₂)
    (J : Nat → List Value → Prop) (hJl : ∀ i ys, J i ys → ys.length ≤ i) (h0 : J 0 [])
    (turn : CtTurn prog w A h₀ L m env elt c a b scope cl s its.size P news J)
    (fin : ∀ D ys h' tk, Fr h₀ L h' m → News h₀ L h' ((D, lst ys) :: news) → Off1 D news → J its.size ys → Q (.ref D) { s with heap := h', toks := tk }) :
    CtSrc prog w A env elt iter c a b pa pb tp kk scope cl pos Q E (.ref l) s := by
  have hl := S.list F.keep N
  have hlt : l < s.heap.objs.size := by obtain ⟨_, e, _⟩ := hl; exact Heap.lt_size e
  refine wpAny_pyIter_list hl ?_
  generalize hI : s.heap.objs.size = I at *
  have up : ∀ b o, s.heap.get? b = some o → (s.heap.push { cls := .type "list_iterator", data := .fields #[.ref l, .int 0 0] }).get? b = some o := fun b o e => Heap.get?_push_of_some _ e
  have hI₀ : h₀.get? I = none := hI ▸ next_is_new F
  have hIL : L ≠ I := hI ▸ Nat.ne_of_lt F.ns.lt
  have offI : ∀ p ∈ news, p.1 ≠ I := fun p hp => hI ▸ Nat.ne_of_lt (Heap.lt_size (N p hp).1)
  have W := Walks.list (prog := prog) (w := w) hh I l (Nat.ne_of_lt hlt) its
  have hIg : (s.heap.push { cls := .type "list_iterator", data := .fields #[.ref l, .int 0 0] }).get? I = some { cls := .type "list_iterator", data := .fields #[.ref l, .int 0 0] } := hI ▸ Heap.get?_push_size _ rfl
  have hst : (s.heap.push { cls := .type "list_iterator", data := .fields #[.ref l, .int 0 0] }).IsListIter I l 0 ∧ (s.heap.push { cls := .type "list_iterator", data := .fields #[.ref l, .int 0 0] }).IsList l its := ⟨⟨_, hIg, rfl, rfl⟩, hl.push _⟩
  have F₁ := F.keeps up
  have N₁ := N.grown up
  have hIs : I < (s.heap.push { cls := .type "list_iterator", data := .fields #[.ref l, .int 0 0] }).objs.size := by rw [Heap.size_push, hI]; exact Nat.lt_succ_self _
  have hls : l < (s.heap.push { cls := .type "list_iterator", data := .fields #[.ref l, .int 0 0] }).objs.size := by rw [Heap.size_push, hI]; exact Nat.lt_succ_of_lt hlt
  generalize s.heap.push { cls := .type "list_iterator", data := .fields #[.ref l, .int 0 0] } = H1 at *
  refine wpAny_newObj_type (wpAny_newFunctionEnv hcell (by intro y hy; simp at hy) (fun h₁ hns₁ hsb₁ => ?_) hkind)
  dsimp only at hns₁ hsb₁ ⊢
  generalize hH2 : H1.push { cls := .type "list", dict := none, data := .seq ([] : List Value).toArray } = H2 at hns₁ hsb₁ ⊢
  have hC : H2.objs.size = H1.objs.size + 1 := by rw [← hH2, Heap.size_push]
  generalize hCa : H2.objs.size = C at *
  have hnone : ∀ a, H1.objs.size ≤ a → h₀.get? a = none := fun a ha => by
    cases e : h₀.get? a with
    | none => rfl
    | some o' => exact absurd (Heap.lt_size (F₁.keep a o' e)) (Nat.not_lt.mpr ha)
  have hD₀ := hnone _ (Nat.le_refl _)
  have hC₀ := hnone C (by rw [hC]; exact Nat.le_succ _)
  have hDC : H1.objs.size ≠ C := by rw [hC]; exact Nat.ne_of_lt (Nat.lt_succ_self _)
  have below : ∀ b, b < H1.objs.size → b ≠ C ∧ b ≠ H1.objs.size := fun b hb => ⟨by rw [hC]; exact Nat.ne_of_lt (Nat.lt_succ_of_lt hb), Nat.ne_of_lt hb⟩
  have old : ∀ b o, H1.get? b = some o → h₁.get? b = some o := fun b o e => hsb₁.extBut b o (below b (Heap.lt_size e)).1 (Heap.get?_push_of_some _ (hH2 ▸ Heap.get?_push_of_some _ e))
  have hacc : h₁.get? H1.objs.size = some (lst []) := hsb₁.extBut _ _ hDC (Heap.get?_push_of_some _ (hH2 ▸ Heap.get?_push_size _ rfl))
  have hst₁ : h₁.IsListIter I l 0 ∧ h₁.IsList l its := W.frame 0 _ _ hst fun b _ o e => old b o e
  generalize hDa : H1.objs.size = D at *
  have hLD := below L (hDa ▸ F₁.ns.lt)
  have hID := below I hIs
  have hlD := below l hls
  have off₀ : Off3 I C D news := Off3.of fun p hp => ⟨offI p hp, below _ (hDa ▸ Heap.lt_size (N₁ p hp).1)⟩
  have off3 := off₀.mem
  have loop : ∀ s₃ : Shared, s₃ = { s with heap := h₁, toks := s.toks } → codeAny (model prog w) A (.compLoop (.ListComp elt [⟨.Tuple [.Name a pa, .Name b pb] kk tp, iter, [c], 0⟩] scope pos) 0 (.ref I) (.ref D) (compEnvC scope cl C env)) (compPost (model prog w) A E none Q (.ref D) C) s₃ := by
    rintro s₃ rfl
    refine kct_loop
      (fun k s' => ∃ h' tk i ys m', s' = { s with heap := h', toks := tk } ∧ i ≤ its.size ∧ k = its.size + 1 - i ∧ (h'.IsListIter I l i ∧ h'.IsList l its) ∧ Fr h₀ L h' m ∧ h'.Ns C m' ∧ News h₀ L h' ((D, lst ys) :: news) ∧ J i ys) ?_ (its.size + 1)
      ⟨h₁, _, 0, [], _, rfl, Nat.zero_le _, rfl, hst₁, F₁.keeps old, hns₁, fun p hp => ?_, h0⟩
    · rintro k s' ⟨h', tk, i, ys, m', rfl, hi, rfl, hst', F', hn', N', hJ⟩
      have offD : ∀ p ∈ (D, lst ys) :: news, p.1 ≠ I := fun p hp => by
        rcases List.mem_cons.mp hp with rfl | hp
        · exact Ne.symm hID.2
        · exact (off3 p hp).1
      by_cases hlt' : i < its.size
      · refine W.item i _ _ _ hlt' hst' fun v h₂ tk₂ hPv hst₂ hk₂ => ?_
        obtain ⟨t, v₁, v₂, nt, rfl, hmt, hPt⟩ := hP i v hPv
        have N₂ := news_but N' hk₂ offD
        refine wpAny_letOwnedTupleGo_listiter hst₂.1 ?_
        refine kcp_assign (env := compEnvC scope cl C env) hh ⟨_, (N₂ _ (List.mem_cons_of_mem _ hmt)).1, rfl, _, rfl⟩ (lookup_relabel_local hxa) (lookup_relabel_local hxb) (by simp [compEnvC, relabel, hkind]) (hn'.at' fun o e => hk₂ _ o (by simpa using Ne.symm hID.1) e) fun h₃ tk₃ hn₃ hs₃ => ?_
        have hst₃ : h₃.IsListIter I l (i + 1) ∧ h₃.IsList l its := W.frame _ _ _ hst₂ fun b hb o e => hs₃ b o (fun q => by
          have q' : b = C := q
          rcases List.mem_cons.mp hb with r | r
          · exact hID.1 (r ▸ q')
          · exact hlD.1 ((List.mem_singleton.mp r) ▸ q')) e
        obtain ⟨oI, heI⟩ : ∃ o, h₃.get? I = some o := by obtain ⟨o, e, _⟩ := hst₃.1; exact ⟨o, e⟩
        obtain ⟨oC, heC, hoC⟩ := ns_obj hn₃
        have F₂ := fr_but F' hk₂ hIL hI₀
        have F₃ : Fr h₀ L h₃ m := ⟨F₂.ns.at' fun o e => hs₃ _ o hLD.1 e, fun b o e => hs₃ b o (fun q => by
          have q' : b = C := q
          rw [q', hC₀] at e; cases e) (F₂.keep b o e), F₂.above⟩
        have N₃ : News h₀ L h₃ ((I, oI) :: (C, oC) :: (D, lst ys) :: news) := fun p hp => by
          rcases List.mem_cons.mp hp with rfl | hp
          · exact ⟨heI, Ne.symm hIL, hI₀⟩
          · rcases List.mem_cons.mp hp with rfl | hp
            · exact ⟨heC, Ne.symm hLD.1, hC₀⟩
            · refine ⟨hs₃ _ _ ?_ (N₂ p hp).1, (N₂ p hp).2⟩
              rcases List.mem_cons.mp hp with rfl | hp
              · exact hDC
              · exact (off3 p hp).2.1
        have zC : h₃.Ns C _ := hn₃
        have zD := (N₃ (D, lst ys) (List.mem_cons_of_mem _ (List.mem_cons_of_mem _ List.mem_cons_self))).1
        have N₃' : News h₀ L h₃ news := fun p hp => N₃ p (List.mem_cons_of_mem _ (List.mem_cons_of_mem _ (List.mem_cons_of_mem _ hp)))
        refine turn i ys v₁ v₂ t I oI C oC D _ h₃ _ _ _ _ hlt' hPt hJ hoC (by simp [hab]) (by simp) F₃ N₃ off₀ ⟨hID.1, hID.2, Ne.symm hDC⟩ (fun y tk₄ hJ₄ => ?_) (fun tk₄ hJ₄ => ?_)
        · have hyl := hJl _ _ hJ
          refine append_at (hsz := by show ys.toArray.size ≤ sizeLine; rw [List.size_toArray]; omega) zD fun h₅ hs₅ hD₅ => ?_
          refine ⟨its.size + 1 - (i + 1), by omega, h₅, tk₄, i + 1, ys ++ [y], _, rfl, hlt', rfl, W.frame _ _ _ hst₃ fun b hb o e => hs₅.extBut b o (fun q => ?_) e, F₃.change hs₅ (Ne.symm hLD.2) hD₀, zC.sameBut hs₅ (Ne.symm hDC), fun p hp => ?_, hJ₄⟩
          · rcases List.mem_cons.mp hb with r | r
            · exact hID.2 (r ▸ q)
            · exact hlD.2 ((List.mem_singleton.mp r) ▸ q)
          · rcases List.mem_cons.mp hp with rfl | hp
            · exact ⟨hD₅.trans (congrArg some (lst_snoc ys y)), Ne.symm hLD.2, hD₀⟩
            · exact ⟨hs₅.extBut _ _ (off3 p hp).2.2 (N₃' p hp).1, (N₃' p hp).2⟩
        · refine ⟨its.size + 1 - (i + 1), by omega, h₃, tk₄, i + 1, ys, _, rfl, hlt', rfl, hst₃, F₃, zC, fun p hp => ?_, hJ₄⟩
          rcases List.mem_cons.mp hp with rfl | hp
          · exact ⟨zD, Ne.symm hLD.2, hD₀⟩
          · exact N₃' p hp
      · obtain rfl : i = its.size := Nat.le_antisymm hi (Nat.not_lt.mp hlt')
        refine W.done _ _ _ hst' fun h₂ tk₂ hk₂ => ?_
        have N₂ := news_but N' hk₂ offD
        refine ⟨m', hn'.at' fun o e => hk₂ _ o (by simpa using Ne.symm hID.1) e, fun h'' hs'' => fin D ys h'' tk₂ ((fr_but F' hk₂ hIL hI₀).change hs'' (Ne.symm hLD.1) hC₀) (fun p hp => ?_) off₀.one hJ⟩
        refine ⟨hs''.extBut _ _ ?_ (N₂ p hp).1, (N₂ p hp).2⟩
        rcases List.mem_cons.mp hp with rfl | hp
        · exact hDC
        · exact (off3 p hp).2.1
    · rcases List.mem_cons.mp hp with rfl | hp
      · exact ⟨hacc, Ne.symm hLD.2, hD₀⟩
      · exact ⟨old _ _ (N₁ p hp).1, (N₁ p hp).2⟩
  exact codeAny_compStart_list (loop _ rfl) (W.self 0 _ _ _ hst₁ (loop _ rfl))
end
end PartLp2
section PartLr
open PyProof.Rows.LCg
section
variable {prog : Program} {w : World} {A : Around} {E : Value → Shared → Prop} {s : Shared} {env : Env} {h₀ : Heap} {x zr zq : Str} {px pos : Pos} {body : List Stmt} {Q : Flow → Shared → Prop}
/-- a loop over a list backwards: its own name x, the body sets zr (to what J says) and zq -/
def LpTurnR (prog : Program) (w : World) (A : Around) (h₀ : Heap) (env : Env) (x zr zq : Str) (m : Str → Option Value) (body : List Stmt) (s : Shared) (its : Array Value) (J : Nat → Value → List (Addr × Obj) → Prop) : Prop :=
  ∀ I i v vx vr vq news₁ oI h tk dr (Q' : Flow → Shared → Prop) (E' : Value → Shared → Prop), i < its.size → its[its.size - 1 - i]? = some v → J i vr news₁ → Off1 I news₁ →
    Fr h₀ env.locals h (fun y => if y = zr then some vr else if y = x then vx else if y = zq then vq else m y) → News h₀ env.locals h ((I, oI) :: news₁) →
    (∀ h' tk' dr' vx' vr' vq' news₂, Fr h₀ env.locals h' (fun y => if y = zr then some vr' else if y = x then vx' else if y = zq then vq' else m y) → News h₀ env.locals h' ((I, oI) :: news₂) → Off1 I news₂ → J (i + 1) vr' news₂ → Q' .next { s with heap := h', drawn := dr', toks := tk' }) →
    wpAny (model prog w) A (storeName env x v) (fun _ s₂ => wpAny (model prog w) A (execs body env) Q' E' s₂) E' { s with heap := h, drawn := dr, toks := tk }
theorem rev_st {I l : Addr} {its : Array Value} {L : Addr} : ∀ i (h h' : Heap) (o : Obj) (nw : List (Addr × Obj)), (i ≤ its.size ∧ h.IsRevIter I l ((its.size : Int) - 1 - (i : Int)) ∧ h.IsList l its) → h.get? I = some o → h'.get? I = some o → (∀ b o, h₀.get? b = some o → h'.get? b = some o) → News h₀ L h' nw → SrcAt h₀ l its nw → (i ≤ its.size ∧ h'.IsRevIter I l ((its.size : Int) - 1 - (i : Int)) ∧ h'.IsList l its) := by
  intro i h h' o nw st e e' k N S
  obtain ⟨hi, ⟨o', ho', hc, hd⟩, hl⟩ := st
  rw [e] at ho'
  cases ho'
  exact ⟨hi, ⟨o, e', hc, hd⟩, S.list k N⟩
theorem LpSrc.revM {I l : Addr} {its : Array Value} {m : Str → Option Value} {news : List (Addr × Obj)} {vr : Value} (hh : A.handled = none) (F : Fr h₀ env.locals s.heap m) (N : News h₀ env.locals s.heap ((I, revObj l ((its.size : Int) - 1)) :: news)) (off : ∀ p ∈ news, @Ne Nat p.1 I)
    (zr zq : Str) (hr : m zr = some vr) (J : Nat → Value → List (Addr × Obj) → Prop) (hJS : ∀ i v nw, J i v nw → SrcAt h₀ l its nw) (h0 : J 0 vr news)
    (turn : LpTurnR prog w A h₀ env x zr zq m body s its J)
    (fin : ∀ h' tk dr vx vr' vq news', Fr h₀ env.locals h' (fun y => if y = zr then some vr' else if y = x then vx else if y = zq then vq else m y) → News h₀ env.locals h' news' → J its.size vr' news' → Q .next { s with heap := h', drawn := dr, toks := tk }) :
    LpSrc prog w A env x px body Q E (.ref I) s := by
  have hI := N _ List.mem_cons_self
  have N' : News h₀ env.locals s.heap news := fun p hp => N p (List.mem_cons_of_mem _ hp)
  have hl := (hJS _ _ _ h0).list F.keep N'
  have hit : s.heap.IsRevIter I l ((its.size : Int) - 1) := ⟨_, hI.1, rfl, rfl⟩
  have hlI : l ≠ I := fun q => by
    obtain ⟨o, e, hc, _⟩ := hl
    rw [q, hI.1] at e
    cases e
    exact absurd hc (by simp [revObj])
  refine wpAny_pyIter_revIter hit ?_
  refine lp_walkS (S := SrcAt h₀ l its) (Walks.listRev hh I l hlI its) (fun i h st => by obtain ⟨_, ⟨o, e, _⟩, _⟩ := st; exact ⟨o, e⟩) rev_st (Ne.symm hI.2.1) hI.2.2 off ⟨Nat.zero_le _, by simpa using hit, hl⟩ F N'
    (fun i m' nw => ∃ vr vx vq, (∀ y, m' y = (fun y => if y = zr then some vr else if y = x then vx else if y = zq then vq else m y) y) ∧ J i vr nw) (fun i m' nw h => by obtain ⟨_, _, _, _, h⟩ := h; exact hJS _ _ _ h) ⟨vr, m x, m zq, fun y => ?_, h0⟩ ?_ ?_
  · dsimp only
    by_cases h1 : y = zr
    · rw [if_pos h1, h1, hr]
    · rw [if_neg h1]
      by_cases h2 : y = x
      · rw [if_pos h2, h2]
      · rw [if_neg h2]
        by_cases h3 : y = zq
        · rw [if_pos h3, h3]
        · rw [if_neg h3]
  · intro I' i v m₁ news₁ oI h tk dr Q' E' hi hP hJ off' F' N'' k
    obtain ⟨vr, vx, vq, hm, hJ⟩ := hJ
    exact turn I' i v vx vr vq news₁ oI h tk dr Q' E' hi hP hJ off' (fr_congr F' hm) N'' fun h' tk' dr' vx' vr' vq' news₂ F'' N''' off'' hJ'' => k h' tk' dr' _ news₂ F'' N''' off'' ⟨vr', vx', vq', fun _ => rfl, hJ''⟩
  · intro h' tk dr m' news' F' N'' hJ
    obtain ⟨vr, vx, vq, hm, hJ⟩ := hJ
    exact fin h' tk dr vx vr vq news' (fr_congr F' hm) N'' hJ
end
/-- the value of a list of digits, the lowest first -/
def val (B : Int) : List Int → Int
  | [] => 0
  | d :: r => d + B * val B r
theorem val_append (B : Int) (d : Int) : ∀ l : List Int, val B (l ++ [d]) = val B l + B ^ l.length * d
  | [] => by simp [val]
  | x :: r => by
    rw [List.cons_append, val, val, val_append B d r, List.length_cons, Int.pow_succ, Int.mul_add, Int.add_assoc, Int.mul_comm (B ^ r.length) B, Int.mul_assoc]
/-- the digits that _int2digits hands back -/
def DigOk (n x : Int) (dl : List Int) : Prop := dl.length ≤ 3 ∧ (n = 3 → dl.length ≤ 2) ∧ (∀ d ∈ dl, 0 ≤ d ∧ d < 2 ^ n.toNat) ∧ val (2 ^ n.toNat) dl = x
theorem append_own {prog : Program} {w : World} {A : Around} {E : Value → Shared → Prop} {s : Shared} {h₀ : Heap} {L : Addr} {m : Str → Option Value} {D : Addr} {vs : List Value} {n : Nat} {x : Value} {rest : List (Addr × Obj)} {Q : Value → Shared → Prop}
    (F : Fr h₀ L s.heap m) (N : News h₀ L s.heap ((D, W.listOf vs.toArray n) :: rest)) (hne : ∀ p ∈ rest, p.1 ≠ D) (hsz : vs.length ≤ 1000)
    (h : ∀ h', Fr h₀ L h' m → News h₀ L h' ((D, W.listOf (vs ++ [x]).toArray (n + 1)) :: rest) → Q .none { s with heap := h' }) : wpAny (model prog w) A (call (.builtin "list.append") [.ref D, x]) Q E s :=
  append_K F N (.head hne) (fun h' F' N' => h h' F' (by rw [← List.push_toArray]; exact N')) (by rw [sizeLine_eq, List.size_toArray]; omega)
theorem ints_snoc {vs : List Value} {ns : List Int} (h : IntsAre vs ns) (n : Int) (t : Tok) : IntsAre (vs ++ [.int n t]) (ns ++ [n]) := IntsAre.append h (.cons n t .nil)
theorem news_swap {h₀ h : Heap} {L : Addr} {p q : Addr × Obj} {l : List (Addr × Obj)} (N : News h₀ L h (q :: p :: l)) : News h₀ L h (p :: q :: l) := fun r hr => N r (by
  simp only [List.mem_cons] at hr ⊢
  rcases hr with hr | hr | hr
  · exact .inr (.inl hr)
  · exact .inl hr
  · exact .inr (.inr hr))
theorem off1_map {I : Addr} {l l' : List (Addr × Obj)} (e : l.map (·.1) = l'.map (·.1)) (h : Off1 I l) : Off1 I l' := off1_of fun p hp => by
  have : p.1 ∈ l.map (·.1) := e ▸ List.mem_map_of_mem hp
  obtain ⟨q, hq, hqe⟩ := List.mem_map.mp this
  exact hqe ▸ off1_mem h q hq
theorem news_of {h₀ h : Heap} {L : Addr} {l l' : List (Addr × Obj)} (N : News h₀ L h l) (hs : ∀ p ∈ l', p ∈ l) : News h₀ L h l' := fun p hp => N p (hs p hp)
theorem sub_nil {l : List (Addr × Obj)} : ∀ p ∈ ([] : List (Addr × Obj)), p ∈ l := fun _ h => nomatch h
theorem sub_cons2 {q : Addr × Obj} {r l : List (Addr × Obj)} (h : q ∈ l) (hr : ∀ p ∈ r, p ∈ l) : ∀ p ∈ q :: r, p ∈ l := fun p hp => (List.mem_cons.mp hp).elim (fun e => e ▸ h) (hr p)
theorem sub_app {a b l : List (Addr × Obj)} (ha : ∀ p ∈ a, p ∈ l) (hb : ∀ p ∈ b, p ∈ l) : ∀ p ∈ a ++ b, p ∈ l := fun p hp => (List.mem_append.mp hp).elim (ha p) (hb p)
theorem mem_or_lt_ne {c' X : Addr} {oc oX : Obj} {tS tail : List (Addr × Obj)} (h : (c', oc) ∈ tS ∨ AllLt c' tail) (hn : ∀ p ∈ tS, p.1 ≠ X) (hm : (X, oX) ∈ tail) : c' ≠ X := by
  rcases h with h | h
  · exact hn _ h
  · exact Nat.ne_of_gt (allLt_lt h _ hm)
theorem lsh_B {prog : Program} {w : World} {A : Around} {E : Value → Shared → Prop} {s : Shared} {r n B : Int} {t u : Tok} {Q : Value → Shared → Prop} (hn : n = 2 ∨ n = 3) (hB : (2 : Int) ^ n.toNat = B) (h0 : 0 ≤ r) (h1 : r < 1000) (h : Q (.int (r * B) s.toks) { s with toks := s.toks + 1 }) : wpAny (model prog w) A (binaryOp .LShift (.int r t) (.int n u)) Q E s := by
  subst hB
  exact lshift_int_small (by omega) (by omega) (by omega) h
theorem div_step {b B Q q r r' d : Int} (hB : B = 4 ∨ B = 8) (h : r * B + d = b * q + r') : d + B * (b * Q + r) = b * (q + B * Q) + r' := by
  have e : b * (q + B * Q) = b * q + B * (b * Q) := by rw [Int.mul_add, Int.mul_left_comm]
  rw [e]
  generalize b * Q = z at *
  generalize b * q = y at *
  rcases hB with rfl | rfl <;> omega
theorem div_fin {b x Q r : Int} (hb : 2 ≤ b) (h : x = b * Q + r) (h0 : 0 ≤ r) (h1 : r < b) : Q = x / b ∧ r = x % b := by
  subst h
  rw [Int.add_comm, Int.add_mul_ediv_left _ _ (by omega), Int.add_mul_emod_self_left, Int.ediv_eq_zero_of_lt h0 h1, Int.emod_eq_of_lt h0 h1]
  exact ⟨(Int.zero_add Q).symm, rfl⟩
theorem rev_ints : ∀ {vs : List Value} {ns : List Int}, IntsAre vs ns → IntsAre vs.reverse ns.reverse
  | _, _, .nil => .nil
  | _, _, .cons n t h => by rw [List.reverse_cons, List.reverse_cons]; exact ints_snoc (rev_ints h) n t
end PartLr
local macro_rules | `(tactic| walk_at "mem go") => `(tactic| with_reducible (first | apply List.mem_cons_self | (apply List.mem_cons_of_mem; walk_at "mem go") | (apply List.mem_append_left; walk_at "mem go") | (apply List.mem_append_right; walk_at "mem go") | assumption))
local macro_rules | `(tactic| walk_at "sub go") => `(tactic| with_reducible (first | apply sub_nil | (apply sub_cons2; (walk_at "mem go"); (walk_at "sub go")) | (apply sub_app <;> walk_at "sub go") | (intro p hp; walk_at "mem go")))
local macro_rules | `(tactic| k_room) => `(tactic| ktr_room)
local macro_rules | `(tactic| k_all) => `(tactic| first | assumption | (refine allLt_neL (by assumption) ?_; (try dsimp only); omega))
local macro_rules | `(tactic| walk_at "exec FunctionDef") => `(tactic| (k_here; k_dflt (refine' nestDef_K ?d0 ?k0 ?a0 ?_; (case d0 => exact rfl); (case k0 => exact rfl); (case a0 => exact rfl)); k_dflt (refine' nestAny_K ?F ?N ?T ?C ?cd ?U ?S ?sub ?tl ?cl ?_; (case F => k_asm); (case N => k_asm); (case T => k_asm); (case cd => exact rfl); (case C => kn_code); (case U => k_updF); (case S => assumption); (case sub => (intro q hq; repeat (first | exact hq | (exact (by assumption : ∀ q ∈ _, q ∈ _) q hq) | refine List.Mem.tail _ ?_))); (case tl => exact fun q hq => allLt_lt (by assumption) q ((by assumption : ∀ q ∈ _, q ∈ _) q hq)); (case cl => exact rfl); k_whole); intro f' c' oc' vs' t' ct' dc' h' tk' F' N' d1' d2' l1 l2 l3 l4; (try dsimp only at N'); (try k_lt l1); (try k_lt2 l2); (try simp only [AllLt, and_true] at l4); (try k_sweep)))
section PartC1
theorem fdiv_nn {x b : Int} (h : 0 ≤ x) (hb : 2 ≤ b) : 0 ≤ x.fdiv b := by rw [Int.fdiv_eq_ediv_of_nonneg _ (by omega)]; exact Int.ediv_nonneg h (by omega)
theorem fdiv_2 {x b : Int} (h : 0 ≤ x) (hb : 2 ≤ b) : 2 * x.fdiv b ≤ x := by
  rw [Int.fdiv_eq_ediv_of_nonneg _ (by omega)]
  have h1 : b * (x / b) ≤ x := Int.mul_ediv_self_le (by omega)
  have h2 : 2 * (x / b) ≤ b * (x / b) := Int.mul_le_mul_of_nonneg_right hb (Int.ediv_nonneg h (by omega))
  omega
theorem fmod_nn {x b : Int} (hb : 2 ≤ b) : 0 ≤ x.fmod b := by rw [Int.fmod_eq_emod_of_nonneg _ (by omega)]; exact Int.emod_nonneg _ (by omega)
theorem fmod_lt {x b : Int} (hb : 2 ≤ b) : x.fmod b < b := by rw [Int.fmod_eq_emod_of_nonneg _ (by omega)]; exact Int.emod_lt_of_pos _ (by omega)
section
theorem c_div2n1n {w : World} {p : Program} {loose : List Str} {mean : ExcName → Option Value} {mg mb : Str → Option Value}
  {x b n : Int} {tx tb tn : Tok} {news : List (Addr × Obj)}
  {dp un : Nat} {gd : Option (List Code)} {cn : Str} {cs : Scope} {a : Addr} {ccd : Value} {cl : List (Str × Addr)} {outer : List Env} {A₀ : Around} {base h₀ : Heap} {L : Addr} {m : Str → Option Value} {s : Shared} {Q E : Value → Shared → Prop}
  (B : Below A₀ base outer h₀) (F : Fr h₀ L s.heap m) (X : (hd.heap_39 w.params).In h₀) (N : News h₀ L s.heap news) (T : Top p loose mean mg mb h₀) (hk : cs.kind = .function)
  (hx0 : 0 ≤ x) (hx1 : x < 1000) (hb0 : 2 ≤ b) (hb1 : b ≤ 5) (hn : 0 ≤ n) (hn1 : n < 1000) (hd : dp + 1 < recursionLimit)
  (hret : ∀ q r t t1 t2 h' tk', Fr h₀ L h' m → News h₀ L h' ((t, { cls := .type "tuple", data := .seq #[.int q t1, .int r t2] 0 }) :: news) → (∀ p ∈ news, p.1 < t) → q = Int.fdiv x b → r = Int.fmod x b → 0 ≤ q → 2 * q ≤ x → 0 ≤ r → r < b → Q (.ref t) { s with heap := h', toks := tk' }) :
  wpAny (model Challenge.rw_ny0343_01.row.prog w) (ktrTop dp un gd cn cs L a ccd cl outer) (call (.ref 67) [.int x tx, .int b tb, .int n tn]) Q E s := by
  revert X
  w_top off
  k_fill
  intro X
  have hb := intBits_le_64 (k := x) (by omega) (by omega)
  refine wpAny_call ?_
  k_dflt cell_enter
  k_steps
  all_goals first
    | (refine hret _ _ _ _ _ _ _ (by k_asm) (by k_asm) (news_lt (by assumption)) rfl rfl (fdiv_nn hx0 hb0) (fdiv_2 hx0 hb0) (fmod_nn hb0) (fmod_lt hb0))
    | trace_state
end
end PartC1
section PartN1a
def bodyAt (l : List Stmt) (i : Nat) : List Stmt := match l.drop i with
  | .FunctionDef _ _ b _ _ _ _ _ _ _ :: _ => b
  | _ => []
def scopeAt (l : List Stmt) (i : Nat) : Scope := match l.drop i with
  | .FunctionDef _ _ _ _ _ _ sc _ _ _ :: _ => sc
  | _ => default
def argsAt (l : List Stmt) (i : Nat) : Arguments := match l.drop i with
  | .FunctionDef _ ar _ _ _ _ _ _ _ _ :: _ => ar
  | _ => default
def mainB : List Stmt := Challenge.pw_ny0343_01.main.body
section
variable {prog : Program} {w : World} {A : Around} {E : Value → Shared → Prop} {s : Shared} {x n v : Int} {t u : Tok} {Q : Value → Shared → Prop}
theorem rs_to (hv : x.fdiv (2 ^ n.toNat) = v) (hn : 0 ≤ n) (h : Q (.int v s.toks) { s with toks := s.toks + 1 }) : wpAny (model prog w) A (binaryOp .RShift (.int x t) (.int n u)) Q E s := by
  subst hv; exact rshift_int hn h
theorem ls_to (hv : x * 2 ^ n.toNat = v) (hn : 0 ≤ n) (h2 : n ≤ 1000000) (hx0 : 0 ≤ x) (hx : x < 2 ^ 60) (h : Q (.int v s.toks) { s with toks := s.toks + 1 }) : wpAny (model prog w) A (binaryOp .LShift (.int x t) (.int n u)) Q E s := by
  subst hv; exact lshift_int_small hn h2 (by omega) h
theorem xr_to (hv : Builtin.bitXor x n = v) (h : Q (.int v s.toks) { s with toks := s.toks + 1 }) : wpAny (model prog w) A (binaryOp .BitXor (.int x t) (.int n u)) Q E s := by
  subst hv; exact xor_int h
theorem ml_to (hv : x * n = v) (hn0 : 0 ≤ n) (hn : n < 2 ^ 60) (h : Q (.int v s.toks) { s with toks := s.toks + 1 }) : wpAny (model prog w) A (binaryOp .Mult (.int x t) (.int n u)) Q E s := by
  subst hv; exact mul_int h (IntMulOk.of_right (intBits_le_64 (by omega) (by omega)))
theorem eq_to {b : Bool} (hv : (x == n) = b) (h : Q (.bool b) s) : wpAny (model prog w) A (compareOp .Eq (.int x t) (.int n u)) Q E s := by
  subst hv; exact eq_int h
theorem fd_to (hv : x.fdiv n = v) (hn0 : 2 ≤ n) (hn : n ≤ 3) (h : Q (.int v s.toks) { s with toks := s.toks + 1 }) : wpAny (model prog w) A (binaryOp .FloorDiv (.int x t) (.int n u)) Q E s := by
  subst hv
  refine floordiv_int (by omega) h (Or.inl ?_)
  rcases (show n = 2 ∨ n = 3 by omega) with rfl | rfl
  · exact PyProof.noPylong_of_log2 (by decide +kernel)
  · exact PyProof.noPylong_of_log2 (by decide +kernel)
end
theorem xor_low {x n : Int} (hn : n = 2 ∨ n = 3) (h0 : 0 ≤ x) (h1 : x < 64) : x.fdiv (2 ^ n.toNat) = x / 2 ^ n.toNat ∧ Builtin.bitXor x (x / 2 ^ n.toNat * 2 ^ n.toNat) = x % 2 ^ n.toNat := by
  rcases hn with rfl | rfl
  · exact nat_range 0 63 (P := fun x => x.fdiv (2 ^ Int.toNat 2) = x / 2 ^ Int.toNat 2 ∧ Builtin.bitXor x (x / 2 ^ Int.toNat 2 * 2 ^ Int.toNat 2) = x % 2 ^ Int.toNat 2) (by decide +kernel) x h0 (by omega)
  · exact nat_range 0 63 (P := fun x => x.fdiv (2 ^ Int.toNat 3) = x / 2 ^ Int.toNat 3 ∧ Builtin.bitXor x (x / 2 ^ Int.toNat 3 * 2 ^ Int.toNat 3) = x % 2 ^ Int.toNat 3) (by decide +kernel) x h0 (by omega)
/-- the d lowest digits of x laid from place l on (the last takes what is left) -/
def putDig (B : Int) : List Int → Nat → Nat → Int → List Int
  | ns, _, 0, _ => ns
  | ns, l, 1, x => ns.set l x
  | ns, l, d + 2, x => putDig B (ns.set l (x % B)) (l + 1) (d + 1) (x / B)
def i2dFn (qual : Str) (cN cI cD : Addr) (dc pm ctv : Value) (c' : Addr) : Obj :=
  fnMade (Str.ofString "inner") qual (argsAt (bodyAt mainB 9) 1) (bodyAt (bodyAt mainB 9) 1) (scopeAt (bodyAt mainB 9) 1) [(Str.ofString "n", cN), (Str.ofString "inner", cI), (Str.ofString "a_digits", cD)] dc pm c' ctv
theorem i2dFn_eq {qual : Str} {cN cI cD : Addr} {dc pm ctv : Value} {c' : Addr} : ∃ ar b sc, i2dFn qual cN cI cD dc pm ctv c' = fnMade (Str.ofString "inner") qual ar b sc [(Str.ofString "n", cN), (Str.ofString "inner", cI), (Str.ofString "a_digits", cD)] dc pm c' ctv := ⟨_, _, _, rfl⟩
def I2dOk (w : World) (n : Int) (d : Nat) : Prop := ∀ {p : Program} {loose : List Str} {mean : ExcName → Option Value} {mg mb : Str → Option Value}
  {dp un : Nat} {gd : Option (List Code)} {cn : Str} {cs : Scope} {a : Addr} {ccd : Value} {cl : List (Str × Addr)} {outer : List Env} {A₀ : Around} {base h₀ : Heap} {L : Addr} {m : Str → Option Value} {s : Shared} {Q E : Value → Shared → Prop}
  {f c' D cI cD cN : Addr} {oc oI oD oN : Obj} {vs' : Array Value} {qual : Str} {t tn : Tok} {dc pm ctv : Value} {vs : List Value} {ns : List Int} {e : Nat} {tail : List (Addr × Obj)} {x l r : Int} {tx tl tr : Tok},
  Below A₀ base outer h₀ → Fr h₀ L s.heap m → (hd.heap_39 w.params).In h₀ → News h₀ L s.heap ((f, i2dFn qual cN cI cD dc pm ctv c') :: (c', oc) :: (D, W.listOf vs.toArray e) :: (cI, oI) :: (cD, oD) :: (cN, oN) :: tail) → Top p loose mean mg mb h₀ → cs.kind = .function → CodeHd base 80 76 →
  oc.data = .fields vs' → vs'[1]? = some (.str qual t) → oI.data = .cell (some (.ref f)) → oD.data = .cell (some (.ref D)) → oN.data = .cell (some (.int n tn)) →
  @Ne Nat f D → @Ne Nat c' D → @Ne Nat cI D → @Ne Nat cD D → @Ne Nat cN D → (∀ p ∈ tail, p.1 ≠ D) →
  IntsAre vs ns → 0 ≤ l → l + d ≤ ns.length → r = l + d → ns.length ≤ 3 → 0 ≤ x → x < 64 → dp + d + 2 < recursionLimit →
  (∀ (vs2 : List Value) (ns2 : List Int) (h' : Heap) (tk' : Nat), Fr h₀ L h' m → News h₀ L h' ((f, i2dFn qual cN cI cD dc pm ctv c') :: (c', oc) :: (D, W.listOf vs2.toArray e) :: (cI, oI) :: (cD, oD) :: (cN, oN) :: tail) → IntsAre vs2 ns2 → ns2 = putDig (2 ^ n.toNat) ns l.toNat d x → Q .none { s with heap := h', toks := tk' }) →
  wpAny (model Challenge.rw_ny0343_01.row.prog w) (ktrTop dp un gd cn cs L a ccd cl outer) (call (.ref f) [.int x tx, .int l tl, .int r tr]) Q E s
end PartN1a
section NN
local macro_rules | `(tactic| walk_at "compareOp Eq int int") => `(tactic| (k_here; with_reducible (refine eq_to (by assumption) ?_)))
local macro_rules | `(tactic| walk_at "binaryOp RShift int int") => `(tactic| (k_here; with_reducible (refine rs_to (by assumption) ?_ ?_); omega))
local macro_rules | `(tactic| walk_at "binaryOp LShift int int") => `(tactic| (k_here; with_reducible (refine ls_to (by assumption) ?_ ?_ ?_ ?_ ?_); omega; omega; omega; omega))
local macro_rules | `(tactic| walk_at "binaryOp BitXor int int") => `(tactic| (k_here; with_reducible (refine xr_to (by assumption) ?_)))
local macro_rules | `(tactic| walk_at "binaryOp Mult int int") => `(tactic| (k_here; with_reducible (refine ml_to (by assumption) ?_ ?_ ?_); omega; omega))
section PartN1
section
theorem i2d_leaf {w : World} {n : Int} : I2dOk w n 1 := by
  intro p loose mean mg mb dp un gd cn cs a ccd cl outer A₀ base h₀ L m s Q E f c' D cI cD cN oc oI oD oN vs' qual t tn dc pm ctv vs ns e tail x l r tx tl tr B F X N T hk C76 hoc hv hI hD hN h1 h2 h3 h4 h5 hr hi hl0 hl1 hr' hl3 hx0 hx1 hd hret
  obtain rfl : r = l + 1 := by omega
  have eB : bodyAt (bodyAt mainB 9) 1 = _ :: _ := rfl
  have eS : scopeAt (bodyAt mainB 9) 1 = Scope.mk _ _ _ _ _ := rfl
  have eA : argsAt (bodyAt mainB 9) 1 = Arguments.mk _ _ _ _ _ _ _ := rfl
  unfold i2dFn at N
  rw [eB, eS, eA] at N
  revert X
  w_top off
  k_fill
  intro X
  have he1 : ((l + 1 : Int) == l + 1) = true := beq_self_eq_true _
  refine wpAny_call ?_
  k_dflt (refine' kdv_code ?k1 ?k2 ?k3 ?k4 ?k5 ?kA ?kF ?kK ?k6 ?k7 ?k8 ?k9 ?kB ?_ ?c2 ?c3 ?c4 ?c5; (case kA => exact rfl); (case kF => exact rfl); (case kK => assumption); (case k1 => k_asm); (case k2 => k_asm); (case k3 => k_asm); (case k4 => k_asm); (case k5 => k_asm); (case k6 => k_mem); (case k7 => exact codeRec_news (by k_asm) (by k_mem) (by assumption) (by assumption)); (case k8 => ktr_room); (case k9 => kdv_bind); (case c5 => decide); (case kB => exact locs rfl); (case c2 => exact rfl); (case c3 => exact rfl); (case c4 => exact rfl); k_whole; intro g' L' h' FG' F' N' B' X' T'; (try dsimp only); (try k_lift B'); (try k_fold))
  k_steps
  all_goals exact hret _ _ _ _ (by k_asm) (by assumption) (by assumption) rfl
theorem i2d_node {w : World} {n : Int} {d : Nat} (hn : n = 2 ∨ n = 3) (hd1 : 1 ≤ d) (hd2 : d ≤ 2) (leaf : I2dOk w n 1) (IH : I2dOk w n d) : I2dOk w n (d + 1) := by
  unfold I2dOk at leaf IH
  intro p loose mean mg mb dp un gd cn cs a ccd cl outer A₀ base h₀ L m s Q E f c' D cI cD cN oc oI oD oN vs' qual t tn dc pm ctv vs ns e tail x l r tx tl tr B F X N T hk C76 hoc hv hI hD hN h1 h2 h3 h4 h5 hr hi hl0 hl1 hr' hl3 hx0 hx1 hd hret
  have eB : bodyAt (bodyAt mainB 9) 1 = _ :: _ := rfl
  have eS : scopeAt (bodyAt mainB 9) 1 = Scope.mk _ _ _ _ _ := rfl
  have eA : argsAt (bodyAt mainB 9) 1 = Arguments.mk _ _ _ _ _ _ _ := rfl
  unfold i2dFn at N
  rw [eB, eS, eA] at N
  have hn0 : 2 ≤ n ∧ n ≤ 3 := by omega
  obtain ⟨hup, hlo⟩ := xor_low hn hx0 hx1
  have hb : (0 ≤ x / 2 ^ n.toNat ∧ x / 2 ^ n.toNat < 64) ∧ (0 ≤ x % 2 ^ n.toNat ∧ x % 2 ^ n.toNat < 64) := by
    rcases hn with rfl | rfl
    · rw [show (2 : Int) ^ Int.toNat 2 = 4 by decide]; omega
    · rw [show (2 : Int) ^ Int.toNat 3 = 8 by decide]; omega
  have hmid : (l + r).fdiv (2 ^ Int.toNat 1) = l + 1 := by
    rw [show (2 : Int) ^ Int.toNat 1 = 2 by decide, Int.fdiv_eq_ediv_of_nonneg _ (by omega)]; omega
  have hml : (l + 1 - l) * n = n := by rw [show l + 1 - l = 1 by omega, Int.one_mul]
  have hne : ((l + 1 : Int) == r) = false := beq_eq_false_iff_ne.mpr (by omega)
  have hfin : ∀ ns2, ns2 = putDig (2 ^ n.toNat) ns l.toNat 1 (x % 2 ^ n.toNat) → putDig (2 ^ n.toNat) ns2 (l + 1).toNat d (x / 2 ^ n.toNat) = putDig (2 ^ n.toNat) ns l.toNat (d + 1) x := by
    intro ns2 e
    obtain ⟨d', rfl⟩ : ∃ d', d = d' + 1 := ⟨d - 1, by omega⟩
    rw [e, show (l + 1).toNat = l.toNat + 1 by omega]
    rfl
  generalize x / 2 ^ n.toNat = up at *
  generalize x % 2 ^ n.toNat = lo at *
  obtain ⟨us, hus⟩ : ∃ us, up * 2 ^ n.toNat = us := ⟨_, rfl⟩
  rw [hus] at hlo
  obtain ⟨⟨hu0, hu1⟩, hw0, hw1⟩ := hb
  revert X
  w_top off
  k_fill
  intro X
  refine wpAny_call ?_
  k_dflt (refine' kdv_code ?k1 ?k2 ?k3 ?k4 ?k5 ?kA ?kF ?kK ?k6 ?k7 ?k8 ?k9 ?kB ?_ ?c2 ?c3 ?c4 ?c5; (case kA => exact rfl); (case kF => exact rfl); (case kK => assumption); (case k1 => k_asm); (case k2 => k_asm); (case k3 => k_asm); (case k4 => k_asm); (case k5 => k_asm); (case k6 => k_mem); (case k7 => exact codeRec_news (by k_asm) (by k_mem) (by assumption) (by assumption)); (case k8 => ktr_room); (case k9 => kdv_bind); (case c5 => decide); (case kB => exact locs rfl); (case c2 => exact rfl); (case c3 => exact rfl); (case c4 => exact rfl); k_whole; intro g' L' h' FG' F' N' B' X' T'; (try dsimp only); (try k_lift B'); (try k_fold))
  repeat' ((fail_if_success (with_reducible show wpAny _ _ (call (Value.ref _) _) _ _ _)); first | (k_unfold; (try dsimp only)) | (k_end; wrow_close) | walk1 | (dsimp only; walk1) | (leave1; walk_say "STEP leave1"; try dsimp only) | fail "no step")
  k_dflt (refine' leaf ?B ?F ?X ?N ?T ?hk C76 hoc hv hI hD hN h1 h2 h3 h4 h5 hr hi hl0 ?a ?b hl3 hw0 hw1 ?hd ?_; (case B => k_asm); (case F => k_asm); (case X => k_asm); (case T => k_asm); (case hk => exact rfl); (case N => k_asm); (case a => omega); (case b => rfl); (case hd => ktr_room))
  intro vs2 ns2 h2' tk2 F2 N2 hi2 e2
  have hl : ns2.length = ns.length := by rw [e2]; exact List.length_set ..
  dsimp only
  unfold i2dFn at N2
  rw [eB, eS, eA] at N2
  repeat' ((fail_if_success (with_reducible show wpAny _ _ (call (Value.ref _) _) _ _ _)); first | (k_unfold; (try dsimp only)) | (k_end; wrow_close) | walk1 | (dsimp only; walk1) | (leave1; walk_say "STEP leave1"; try dsimp only) | fail "no step")
  k_dflt (refine' IH ?B ?F ?X ?N ?T ?hk C76 hoc hv hI hD hN h1 h2 h3 h4 h5 hr hi2 ?l0 ?a ?b ?c hu0 hu1 ?hd ?_; (case B => k_asm); (case F => k_asm); (case X => k_asm); (case T => k_asm); (case hk => exact rfl); (case N => k_asm); (case l0 => omega); (case a => omega); (case b => omega); (case c => omega); (case hd => ktr_room))
  intro vs3 ns3 h3' tk3 F3 N3 hi3 e3
  dsimp only
  unfold i2dFn at N3
  rw [eB, eS, eA] at N3
  k_steps
  all_goals exact hret _ _ _ _ (by k_asm) (by assumption) (by assumption) (by rw [e3]; exact hfin _ e2)
theorem news_drop4 {h₀ h : Heap} {L : Addr} {a b c d : Addr × Obj} {r : List (Addr × Obj)} (N : News h₀ L h (a :: b :: c :: d :: r)) : News h₀ L h (a :: b :: c :: r) := fun p hp => by
  rcases List.mem_cons.mp hp with rfl | hp
  · exact N _ (.head _)
  · rcases List.mem_cons.mp hp with rfl | hp
    · exact N _ (.tail _ (.head _))
    · rcases List.mem_cons.mp hp with rfl | hp
      · exact N _ (.tail _ (.tail _ (.head _)))
      · exact N _ (.tail _ (.tail _ (.tail _ (.tail _ hp))))
theorem dig_ok {n x : Int} {k : Nat} {zs : List Int} (hn : n = 2 ∨ n = 3) (hz : zs.length = k) (h1 : 1 ≤ k) (h3 : k ≤ 3) (h2 : n = 3 → k ≤ 2) (hx0 : 0 ≤ x) (hx : x < (2 ^ n.toNat) ^ k) : DigOk n x (putDig (2 ^ n.toNat) zs 0 k x) := by
  have hB : ((2 : Int) ^ n.toNat = 4 ∧ n = 2) ∨ ((2 : Int) ^ n.toNat = 8 ∧ n = 3) := by
    rcases hn with rfl | rfl
    · exact .inl ⟨by decide, rfl⟩
    · exact .inr ⟨by decide, rfl⟩
  unfold DigOk
  match zs, hz with
  | [], hz => simp at hz; omega
  | [a], hz =>
    simp only [List.length_cons, List.length_nil] at hz
    subst hz
    show [x].length ≤ 3 ∧ (n = 3 → [x].length ≤ 2) ∧ (∀ d ∈ [x], 0 ≤ d ∧ d < 2 ^ n.toNat) ∧ val (2 ^ n.toNat) [x] = x
    simp only [List.length_cons, List.length_nil, List.mem_cons, List.not_mem_nil, or_false, forall_eq, val]
    rw [Int.pow_succ, Int.pow_zero] at hx
    rcases hB with ⟨e, _⟩ | ⟨e, _⟩ <;> rw [e] at hx ⊢ <;> omega
  | [a, b], hz =>
    simp only [List.length_cons, List.length_nil] at hz
    subst hz
    show [x % 2 ^ n.toNat, x / 2 ^ n.toNat].length ≤ 3 ∧ (n = 3 → [x % 2 ^ n.toNat, x / 2 ^ n.toNat].length ≤ 2) ∧ (∀ d ∈ [x % 2 ^ n.toNat, x / 2 ^ n.toNat], 0 ≤ d ∧ d < 2 ^ n.toNat) ∧ val (2 ^ n.toNat) [x % 2 ^ n.toNat, x / 2 ^ n.toNat] = x
    simp only [List.length_cons, List.length_nil, List.mem_cons, List.not_mem_nil, or_false, forall_eq_or_imp, forall_eq, val]
    rw [Int.pow_succ, Int.pow_succ, Int.pow_zero] at hx
    rcases hB with ⟨e, _⟩ | ⟨e, _⟩ <;> rw [e] at hx ⊢ <;> omega
  | [a, b, c], hz =>
    simp only [List.length_cons, List.length_nil] at hz
    subst hz
    show [x % 2 ^ n.toNat, x / 2 ^ n.toNat % 2 ^ n.toNat, x / 2 ^ n.toNat / 2 ^ n.toNat].length ≤ 3 ∧ (n = 3 → [x % 2 ^ n.toNat, x / 2 ^ n.toNat % 2 ^ n.toNat, x / 2 ^ n.toNat / 2 ^ n.toNat].length ≤ 2) ∧ (∀ d ∈ [x % 2 ^ n.toNat, x / 2 ^ n.toNat % 2 ^ n.toNat, x / 2 ^ n.toNat / 2 ^ n.toNat], 0 ≤ d ∧ d < 2 ^ n.toNat) ∧ val (2 ^ n.toNat) [x % 2 ^ n.toNat, x / 2 ^ n.toNat % 2 ^ n.toNat, x / 2 ^ n.toNat / 2 ^ n.toNat] = x
    simp only [List.length_cons, List.length_nil, List.mem_cons, List.not_mem_nil, or_false, forall_eq_or_imp, forall_eq, val]
    rw [Int.pow_succ, Int.pow_succ, Int.pow_succ, Int.pow_zero] at hx
    rcases hB with ⟨e, _⟩ | ⟨e, e3⟩
    · rw [e] at hx ⊢; omega
    · have := h2 e3; omega
  | _ :: _ :: _ :: _ :: _, hz => simp only [List.length_cons] at hz; omega
theorem dig_ok0 {n : Int} {zs : List Int} (hz : zs.length = 0) : DigOk n 0 zs := by
  match zs, hz with
  | [], _ => exact ⟨by simp, by simp, by simp, by simp [val]⟩
def kOf (n x : Int) : Nat := (((Builtin.Int.intBits x : Nat) + n - 1).fdiv n).toNat
theorem dig_len {n x : Int} (hn : n = 2 ∨ n = 3) (h0 : 0 ≤ x) (h1 : x ≤ 31) : ((Builtin.Int.intBits x : Nat) + n - 1).fdiv n = (kOf n x : Int) ∧ kOf n x ≤ 3 ∧ (n = 3 → kOf n x ≤ 2) ∧ (x = 0 → kOf n x = 0) ∧ (x ≠ 0 → 1 ≤ kOf n x) ∧ x < (2 ^ n.toNat) ^ kOf n x := by
  rcases hn with rfl | rfl
  · exact nat_range 0 31 (P := fun x => ((Builtin.Int.intBits x : Nat) + (2 : Int) - 1).fdiv 2 = (kOf 2 x : Int) ∧ kOf 2 x ≤ 3 ∧ ((2 : Int) = 3 → kOf 2 x ≤ 2) ∧ (x = 0 → kOf 2 x = 0) ∧ (x ≠ 0 → 1 ≤ kOf 2 x) ∧ x < (2 ^ Int.toNat 2) ^ kOf 2 x) (by decide +kernel) x h0 h1
  · exact nat_range 0 31 (P := fun x => ((Builtin.Int.intBits x : Nat) + (3 : Int) - 1).fdiv 3 = (kOf 3 x : Int) ∧ kOf 3 x ≤ 3 ∧ ((3 : Int) = 3 → kOf 3 x ≤ 2) ∧ (x = 0 → kOf 3 x = 0) ∧ (x ≠ 0 → 1 ≤ kOf 3 x) ∧ x < (2 ^ Int.toNat 3) ^ kOf 3 x) (by decide +kernel) x h0 h1
theorem i2d_ok {w : World} {n : Int} {k : Nat} (hn : n = 2 ∨ n = 3) (h1 : 1 ≤ k) (h3 : k ≤ 3) : I2dOk w n k := by
  have a : I2dOk w n 2 := @i2d_node w n 1 hn (Nat.le_refl 1) (by omega) (@i2d_leaf w n) (@i2d_leaf w n)
  rcases (show k = 1 ∨ k = 2 ∨ k = 3 by omega) with rfl | rfl | rfl
  · exact @i2d_leaf w n
  · exact @a
  · exact @i2d_node w n 2 hn (by omega) (Nat.le_refl 2) (@i2d_leaf w n) @a
local macro_rules | `(tactic| walk_at "binaryOp FloorDiv int int") => `(tactic| (k_here; with_reducible (refine fd_to (by assumption) ?_ ?_ ?_); omega; omega))
theorem c_int2digits {w : World} {p : Program} {loose : List Str} {mean : ExcName → Option Value} {mg mb : Str → Option Value}
  {x n : Int} {tx tn : Tok} {oP : Obj} {tS tail : List (Addr × Obj)}
  {dp un : Nat} {gd : Option (List Code)} {cn : Str} {cs : Scope} {a : Addr} {ccd : Value} {cl : List (Str × Addr)} {outer : List Env} {A₀ : Around} {base h₀ : Heap} {L : Addr} {m : Str → Option Value} {s : Shared} {Q E : Value → Shared → Prop}
  (B : Below A₀ base outer h₀) (F : Fr h₀ L s.heap m) (X : (hd.heap_39 w.params).In h₀) (N : News h₀ L s.heap ((76, oP) :: tail)) (T : Top p loose mean mg mb h₀) (hk : cs.kind = .function)
  (hx0 : 0 ≤ x) (hx1 : x ≤ 31) (hn : n = 2 ∨ n = 3) (C76 : CodeHd base 80 76) (hS : TabSt 76 90 4 (Str.ofString "_int2digits.<locals>.inner") oP tS) (hsub : ∀ q ∈ tS, q ∈ tail) (hr76 : ∀ p ∈ tail, p.1 ≠ 76) (hd : dp + 10 < recursionLimit) (hu : un + 80 < cLine)
  (hret : ∀ (D : Addr) (ds : List Value) (dl : List Int) (c' : Addr) (oc : Obj) (vs' : Array Value) (t : Tok) (h' : Heap) (tk' : Nat), Fr h₀ L h' m → News h₀ L h' ((D, W.listOf ds.toArray 0) :: (76, tabObj #[rawInt 90, rawInt 4, .ref c']) :: (c', oc) :: tail) → IntsAre ds dl → DigOk n x dl → oc.data = .fields vs' → vs'[1]? = some (.str (Str.ofString "_int2digits.<locals>.inner") t) → @Ne Nat c' 76 → ((c', oc) ∈ tS ∨ AllLt c' tail) → Q (.ref D) { s with heap := h', toks := tk' }) :
  wpAny (model Challenge.rw_ny0343_01.row.prog w) (ktrTop dp un gd cn cs L a ccd cl outer) (call (.ref 81) [.int x tx, .int n tn]) Q E s := by
  revert X
  w_top off
  k_fill
  intro X
  have hn0 : 2 ≤ n ∧ n ≤ 3 := by omega
  have hb : Builtin.Int.intBits x ≤ 64 := intBits_le_64 (by omega) (by omega)
  obtain ⟨hfd, hk3, hk2, hkx0, hkx1, hxk⟩ := dig_len hn hx0 hx1
  generalize kOf n x = k at *
  have hin : 1 ≤ k → I2dOk w n k := fun h => @i2d_ok w n k hn h hk3
  unfold I2dOk at hin
  refine wpAny_call ?_
  k_dflt (refine' code_defC ?k1 ?k2 ?k3 ?k4 ?k5 ?kA ?kF ?kK ?k6 ?k7 ?k8 ?k9 ?kB ?kD ?_ ?c2 ?c3 ?c4; (case kA => exact rfl); (case kF => exact rfl); (case kK => assumption); (case k1 => k_asm); (case k2 => k_asm); (case k3 => k_asm); (case k4 => k_asm); (case k5 => k_asm); (case k6 => k_is); (case k7 => k_is); (case k8 => ktr_room); (case k9 => exact BindsTo.of_eq rfl); (case kB => exact rfl); (case kD => decide +kernel); (case c2 => exact rfl); (case c3 => exact rfl); (case c4 => exact rfl); k_whole; intro g' L' h' tk' cells' FG' F' N' Y' B' X' T' l1; (try k_lt l1); (obtain ⟨l76, lrest⟩ := l1); k_cells Y'; (try simp only [List.cons_append, List.nil_append] at N'); (try dsimp only); (try k_fold))
  repeat' ((fail_if_success (with_reducible show wpAny _ _ (call (Value.ref _) _) _ _ _)); first | (k_unfold; (try dsimp only)) | (k_end; wrow_close) | walk1 | (dsimp only; walk1) | (leave1; walk_say "STEP leave1"; try dsimp only) | fail "no step")
  · k_dflt (refine' hin (hkx1 (by assumption)) ?B ?F ?X ?N ?T ?hk C76 ?hoc ?hv ?hI ?hD ?hN ?h1 ?h2 ?h3 ?h4 ?h5 ?hr ?hi ?l0 ?a ?b ?c hx0 ?x1 ?hd ?_; (case B => k_asm); (case F => k_asm); (case X => k_asm); (case T => k_asm); (case hk => exact rfl); (case N => exact news_drop4 (by k_asm)); (case hoc => assumption); (case hv => assumption); (case hI => assumption); (case hD => assumption); (case hN => assumption); (case h1 => omega); (case h2 => omega); (case h3 => omega); (case h4 => omega); (case h5 => omega); (case hr => exact List.forall_mem_cons.mpr ⟨(by show @Ne Nat 76 _; omega), allLt_neL lrest (by omega)⟩); (case hi => assumption); (case l0 => omega); (case a => omega); (case b => omega); (case c => omega); (case x1 => omega); (case hd => ktr_room))
    intro vs2 ns2 h2' tk2 F2 N2 hi2 e2
    dsimp only
    k_steps
    all_goals (refine hret _ vs2 ns2 _ _ _ _ _ _ (by k_asm) (cb_drop (by k_asm) (List.forall_mem_cons.mpr ⟨by k_mem, (List.forall_mem_cons.mpr ⟨by k_mem, (List.forall_mem_cons.mpr ⟨by k_mem, (fun q hq => by repeat (first | exact hq | refine List.Mem.tail _ ?_))⟩)⟩)⟩)) hi2 ?dg (by assumption) (by assumption) (by assumption) (by first | (rename ((_ ∈ _ ∧ @LT.lt Nat _ _ _) ∨ _) => hl4; exact Or.imp And.left (fun h => by repeat (first | exact h | replace h := And.right h)) hl4)); (case dg => (rw [e2]; exact dig_ok hn (by omega) (hkx1 (by assumption)) hk3 hk2 hx0 hxk)))
  · have hx00 : x = 0 := by assumption
    have hk00 := hkx0 hx00
    refine hret _ _ _ _ _ _ _ _ _ (by k_asm) (cb_drop (by k_asm) (List.forall_mem_cons.mpr ⟨by k_mem, (List.forall_mem_cons.mpr ⟨by k_mem, (List.forall_mem_cons.mpr ⟨by k_mem, (fun q hq => by repeat (first | exact hq | refine List.Mem.tail _ ?_))⟩)⟩)⟩)) (by assumption) ?dg (by assumption) (by assumption) (by assumption) (by first | (rename ((_ ∈ _ ∧ @LT.lt Nat _ _ _) ∨ _) => hl4; exact Or.imp And.left (fun h => by repeat (first | exact h | replace h := And.right h)) hl4))
    case dg => rw [hx00]; exact dig_ok0 (by omega)
end
end PartN1
section PartN2
def d2iFn (qual : Str) (cN cI cD : Addr) (dc pm ctv : Value) (c' : Addr) : Obj :=
  fnMade (Str.ofString "inner") qual (argsAt (bodyAt mainB 10) 0) (bodyAt (bodyAt mainB 10) 0) (scopeAt (bodyAt mainB 10) 0) [(Str.ofString "n", cN), (Str.ofString "inner", cI), (Str.ofString "digits", cD)] dc pm c' ctv
/-- the value of the d digits from place l on -/
def dval (B : Int) (ns : List Int) : Nat → Nat → Int
  | _, 0 => 0
  | l, 1 => ns.getD l 0
  | l, d + 2 => dval B ns (l + 1) (d + 1) * B + ns.getD l 0
theorem getD_dig {ns : List Int} (hq : ∀ q ∈ ns, 0 ≤ q ∧ q < 64) (l : Nat) : 0 ≤ ns.getD l 0 ∧ ns.getD l 0 < 64 := by
  rw [List.getD_eq_getElem?_getD]
  cases h : ns[l]? with
  | none => exact ⟨Int.le_refl 0, by decide⟩
  | some q => exact hq q (List.mem_of_getElem? h)
theorem dval_bound {B : Int} {ns : List Int} (hB : B = 4 ∨ B = 8) (hq : ∀ q ∈ ns, 0 ≤ q ∧ q < 64) {d : Nat} (hd : d ≤ 2) (l : Nat) : 0 ≤ dval B ns l d ∧ dval B ns l d < 1000 := by
  have h1 := getD_dig hq l
  have h2 := getD_dig hq (l + 1)
  match d, hd with
  | 0, _ => exact ⟨Int.le_refl 0, (show (0 : Int) < 1000 by decide)⟩
  | 1, _ => show 0 ≤ ns.getD l 0 ∧ ns.getD l 0 < 1000; omega
  | 2, _ =>
    show 0 ≤ ns.getD (l + 1) 0 * B + ns.getD l 0 ∧ ns.getD (l + 1) 0 * B + ns.getD l 0 < 1000
    rcases hB with rfl | rfl <;> omega
theorem val_dval {B : Int} {ns : List Int} (h : ns.length ≤ 3) : val B ns = dval B ns 0 ns.length := by
  match ns, h with
  | [], _ => rfl
  | [a], _ => show a + B * 0 = a; rw [Int.mul_zero, Int.add_zero]
  | [a, b], _ => show a + B * (b + B * 0) = b * B + a; rw [Int.mul_zero, Int.add_zero, Int.mul_comm, Int.add_comm]
  | [a, b, c], _ =>
    show a + B * (b + B * (c + B * 0)) = (c * B + b) * B + a
    rw [Int.mul_zero, Int.add_zero, Int.add_comm a, Int.mul_comm B (b + B * c), Int.add_comm b, Int.mul_comm B c]
  | _ :: _ :: _ :: _ :: _, h => simp only [List.length_cons] at h; omega
theorem sub_len {ns : List Int} {vs : List Value} (h : IntsAre vs ns) : vs.length = ns.length := h.length
def D2iOk (w : World) (n : Int) (d : Nat) : Prop := ∀ {p : Program} {loose : List Str} {mean : ExcName → Option Value} {mg mb : Str → Option Value}
  {dp un : Nat} {gd : Option (List Code)} {cn : Str} {cs : Scope} {a : Addr} {ccd : Value} {cl : List (Str × Addr)} {outer : List Env} {A₀ : Around} {base h₀ : Heap} {L : Addr} {m : Str → Option Value} {s : Shared} {Q E : Value → Shared → Prop}
  {f c' D cI cD cN : Addr} {oc oI oD oN : Obj} {q83 : Addr × Obj} {vs' : Array Value} {qual : Str} {t tn : Tok} {dc pm ctv : Value} {vs : List Value} {ns : List Int} {e : Nat} {tail : List (Addr × Obj)} {l r : Int} {tl tr : Tok},
  Below A₀ base outer h₀ → Fr h₀ L s.heap m → (hd.heap_39 w.params).In h₀ → News h₀ L s.heap ((f, d2iFn qual cN cI cD dc pm ctv c') :: (c', oc) :: (cI, oI) :: (cN, oN) :: (cD, oD) :: q83 :: (D, W.listOf vs.toArray e) :: tail) → Top p loose mean mg mb h₀ → cs.kind = .function → CodeHd base 87 83 →
  oc.data = .fields vs' → vs'[1]? = some (.str qual t) → oI.data = .cell (some (.ref f)) → oD.data = .cell (some (.ref D)) → oN.data = .cell (some (.int n tn)) →
  IntsAre vs ns → 0 ≤ l → l + d ≤ ns.length → r = l + d → ns.length ≤ 3 → (∀ q ∈ ns, 0 ≤ q ∧ q < 64) → dp + d + 2 < recursionLimit →
  (∀ (v : Int) (tv : Tok) (h' : Heap) (tk' : Nat), Fr h₀ L h' m → News h₀ L h' ((f, d2iFn qual cN cI cD dc pm ctv c') :: (c', oc) :: (cI, oI) :: (cN, oN) :: (cD, oD) :: q83 :: (D, W.listOf vs.toArray e) :: tail) → v = dval (2 ^ n.toNat) ns l.toNat d → Q (.int v tv) { s with heap := h', toks := tk' }) →
  wpAny (model Challenge.rw_ny0343_01.row.prog w) (ktrTop dp un gd cn cs L a ccd cl outer) (call (.ref f) [.int l tl, .int r tr]) Q E s
section
theorem d2i_leaf {w : World} {n : Int} : D2iOk w n 1 := by
  intro p loose mean mg mb dp un gd cn cs a ccd cl outer A₀ base h₀ L m s Q E f c' D cI cD cN oc oI oD oN q83 vs' qual t tn dc pm ctv vs ns e tail l r tl tr B F X N T hk C83 hoc hv hI hD hN hi hl0 hl1 hr' hl3 hq hd hret
  obtain rfl : r = l + 1 := by omega
  have eB : bodyAt (bodyAt mainB 10) 0 = _ :: _ := rfl
  have eS : scopeAt (bodyAt mainB 10) 0 = Scope.mk _ _ _ _ _ := rfl
  have eA : argsAt (bodyAt mainB 10) 0 = Arguments.mk _ _ _ _ _ _ _ := rfl
  unfold d2iFn at N
  rw [eB, eS, eA] at N
  revert X
  w_top off
  k_fill
  intro X
  have he1 : ((l + 1 : Int) == l + 1) = true := beq_self_eq_true _
  refine wpAny_call ?_
  k_dflt (refine' kdv_code ?k1 ?k2 ?k3 ?k4 ?k5 ?kA ?kF ?kK ?k6 ?k7 ?k8 ?k9 ?kB ?_ ?c2 ?c3 ?c4 ?c5; (case kA => exact rfl); (case kF => exact rfl); (case kK => assumption); (case k1 => k_asm); (case k2 => k_asm); (case k3 => k_asm); (case k4 => k_asm); (case k5 => k_asm); (case k6 => k_mem); (case k7 => exact codeRec_news (by k_asm) (by k_mem) (by assumption) (by assumption)); (case k8 => ktr_room); (case k9 => kdv_bind); (case c5 => decide); (case kB => exact locs rfl); (case c2 => exact rfl); (case c3 => exact rfl); (case c4 => exact rfl); k_whole; intro g' L' h' FG' F' N' B' X' T'; (try dsimp only); (try k_lift B'); (try k_fold))
  k_steps
  all_goals exact hret _ _ _ _ (by k_asm) (by k_asm) rfl
theorem d2i_node {w : World} {n : Int} {d : Nat} (hn : n = 2 ∨ n = 3) (hd1 : 1 ≤ d) (hd2 : d ≤ 2) (leaf : D2iOk w n 1) (IH : D2iOk w n d) : D2iOk w n (d + 1) := by
  unfold D2iOk at leaf IH
  intro p loose mean mg mb dp un gd cn cs a ccd cl outer A₀ base h₀ L m s Q E f c' D cI cD cN oc oI oD oN q83 vs' qual t tn dc pm ctv vs ns e tail l r tl tr B F X N T hk C83 hoc hv hI hD hN hi hl0 hl1 hr' hl3 hq hd hret
  have eB : bodyAt (bodyAt mainB 10) 0 = _ :: _ := rfl
  have eS : scopeAt (bodyAt mainB 10) 0 = Scope.mk _ _ _ _ _ := rfl
  have eA : argsAt (bodyAt mainB 10) 0 = Arguments.mk _ _ _ _ _ _ _ := rfl
  unfold d2iFn at N
  rw [eB, eS, eA] at N
  have hn0 : 2 ≤ n ∧ n ≤ 3 := by omega
  have hB : (2 : Int) ^ n.toNat = 4 ∨ (2 : Int) ^ n.toNat = 8 := by
    rcases hn with rfl | rfl
    · exact .inl (by decide)
    · exact .inr (by decide)
  have hmid : (l + r).fdiv (2 ^ Int.toNat 1) = l + 1 := by
    rw [show (2 : Int) ^ Int.toNat 1 = 2 by decide, Int.fdiv_eq_ediv_of_nonneg _ (by omega)]; omega
  have hml : (l + 1 - l) * n = n := by rw [show l + 1 - l = 1 by omega, Int.one_mul]
  have hne : ((l + 1 : Int) == r) = false := beq_eq_false_iff_ne.mpr (by omega)
  have hfin : dval (2 ^ n.toNat) ns (l + 1).toNat d * 2 ^ n.toNat + dval (2 ^ n.toNat) ns l.toNat 1 = dval (2 ^ n.toNat) ns l.toNat (d + 1) := by
    obtain ⟨d', rfl⟩ : ∃ d', d = d' + 1 := ⟨d - 1, by omega⟩
    rw [show (l + 1).toNat = l.toNat + 1 by omega]
    rfl
  have hbd := dval_bound hB hq hd2 (l + 1).toNat
  revert X
  w_top off
  k_fill
  intro X
  refine wpAny_call ?_
  k_dflt (refine' kdv_code ?k1 ?k2 ?k3 ?k4 ?k5 ?kA ?kF ?kK ?k6 ?k7 ?k8 ?k9 ?kB ?_ ?c2 ?c3 ?c4 ?c5; (case kA => exact rfl); (case kF => exact rfl); (case kK => assumption); (case k1 => k_asm); (case k2 => k_asm); (case k3 => k_asm); (case k4 => k_asm); (case k5 => k_asm); (case k6 => k_mem); (case k7 => exact codeRec_news (by k_asm) (by k_mem) (by assumption) (by assumption)); (case k8 => ktr_room); (case k9 => kdv_bind); (case c5 => decide); (case kB => exact locs rfl); (case c2 => exact rfl); (case c3 => exact rfl); (case c4 => exact rfl); k_whole; intro g' L' h' FG' F' N' B' X' T'; (try dsimp only); (try k_lift B'); (try k_fold))
  repeat' ((fail_if_success (with_reducible show wpAny _ _ (call (Value.ref _) _) _ _ _)); first | (k_unfold; (try dsimp only)) | (k_end; wrow_close) | walk1 | (dsimp only; walk1) | (leave1; walk_say "STEP leave1"; try dsimp only) | fail "no step")
  k_dflt (refine' IH ?B ?F ?X ?N ?T ?hk C83 hoc hv hI hD hN hi ?l0 ?a ?b hl3 hq ?hd ?_; (case B => k_asm); (case F => k_asm); (case X => k_asm); (case T => k_asm); (case hk => exact rfl); (case N => k_asm); (case l0 => omega); (case a => omega); (case b => omega); (case hd => ktr_room))
  intro v1 tv1 h2' tk2 F2 N2 e2
  rw [← e2] at hbd hfin
  obtain ⟨us, hus⟩ : ∃ us, v1 * 2 ^ n.toNat = us := ⟨_, rfl⟩
  dsimp only
  unfold d2iFn at N2
  rw [eB, eS, eA] at N2
  repeat' ((fail_if_success (with_reducible show wpAny _ _ (call (Value.ref _) _) _ _ _)); first | (k_unfold; (try dsimp only)) | (k_end; wrow_close) | walk1 | (dsimp only; walk1) | (leave1; walk_say "STEP leave1"; try dsimp only) | fail "no step")
  k_dflt (refine' leaf ?B ?F ?X ?N ?T ?hk C83 hoc hv hI hD hN hi hl0 ?a ?b hl3 hq ?hd ?_; (case B => k_asm); (case F => k_asm); (case X => k_asm); (case T => k_asm); (case hk => exact rfl); (case N => k_asm); (case a => omega); (case b => rfl); (case hd => ktr_room))
  intro v2 tv2 h3' tk3 F3 N3 e3
  rw [← e3, hus] at hfin
  dsimp only
  unfold d2iFn at N3
  rw [eB, eS, eA] at N3
  k_steps
  all_goals exact hret _ _ _ _ (by k_asm) (by k_asm) hfin
theorem d2i_ok {w : World} {n : Int} {k : Nat} (hn : n = 2 ∨ n = 3) (h1 : 1 ≤ k) (h3 : k ≤ 3) : D2iOk w n k := by
  have a : D2iOk w n 2 := @d2i_node w n 1 hn (Nat.le_refl 1) (by omega) (@d2i_leaf w n) (@d2i_leaf w n)
  rcases (show k = 1 ∨ k = 2 ∨ k = 3 by omega) with rfl | rfl | rfl
  · exact @d2i_leaf w n
  · exact @a
  · exact @d2i_node w n 2 hn (by omega) (Nat.le_refl 2) (@d2i_leaf w n) @a
theorem c_digits2int {w : World} {p : Program} {loose : List Str} {mean : ExcName → Option Value} {mg mb : Str → Option Value}
  {n : Int} {qv : List Value} {ql : List Int} {e : Nat} {D : Addr} {tn : Tok} {oP : Obj} {tS tail : List (Addr × Obj)}
  {dp un : Nat} {gd : Option (List Code)} {cn : Str} {cs : Scope} {a : Addr} {ccd : Value} {cl : List (Str × Addr)} {outer : List Env} {A₀ : Around} {base h₀ : Heap} {L : Addr} {m : Str → Option Value} {s : Shared} {Q E : Value → Shared → Prop}
  (B : Below A₀ base outer h₀) (F : Fr h₀ L s.heap m) (X : (hd.heap_39 w.params).In h₀) (N : News h₀ L s.heap ((83, oP) :: (D, W.listOf qv.toArray e) :: tail)) (T : Top p loose mean mg mb h₀) (hk : cs.kind = .function)
  (hI : IntsAre qv ql) (hn : n = 2 ∨ n = 3) (hlen : ql.length ≤ 3) (hlen3 : n = 3 → ql.length ≤ 2) (hq : ∀ q ∈ ql, 0 ≤ q ∧ q < 64) (C83 : CodeHd base 87 83) (hS : TabSt 83 105 4 (Str.ofString "_digits2int.<locals>.inner") oP tS) (hsub : ∀ q ∈ tS, q ∈ tail) (hr83 : ∀ p ∈ tail, p.1 ≠ 83) (hD83 : @Ne Nat D 83) (hd : dp + 10 < recursionLimit) (hu : un + 80 < cLine)
  (hret : ∀ (v : Int) (tv : Tok) (c' : Addr) (oc : Obj) (vs' : Array Value) (t : Tok) (h' : Heap) (tk' : Nat), Fr h₀ L h' m → News h₀ L h' ((83, tabObj #[rawInt 105, rawInt 4, .ref c']) :: (c', oc) :: tail) → v = val (2 ^ n.toNat) ql → oc.data = .fields vs' → vs'[1]? = some (.str (Str.ofString "_digits2int.<locals>.inner") t) → @Ne Nat c' 83 → ((c', oc) ∈ tS ∨ AllLt c' tail) → Q (.int v tv) { s with heap := h', toks := tk' }) :
  wpAny (model Challenge.rw_ny0343_01.row.prog w) (ktrTop dp un gd cn cs L a ccd cl outer) (call (.ref 88) [.ref D, .int n tn]) Q E s := by
  revert X
  w_top off
  k_fill
  intro X
  have hn0 : 2 ≤ n ∧ n ≤ 3 := by omega
  have hql := hI.length
  have hval := val_dval (B := 2 ^ n.toNat) hlen
  have hin : 1 ≤ ql.length → D2iOk w n ql.length := fun h => @d2i_ok w n ql.length hn h hlen
  unfold D2iOk at hin
  refine wpAny_call ?_
  k_dflt (refine' code_defC ?k1 ?k2 ?k3 ?k4 ?k5 ?kA ?kF ?kK ?k6 ?k7 ?k8 ?k9 ?kB ?kD ?_ ?c2 ?c3 ?c4; (case kA => exact rfl); (case kF => exact rfl); (case kK => assumption); (case k1 => k_asm); (case k2 => k_asm); (case k3 => k_asm); (case k4 => k_asm); (case k5 => k_asm); (case k6 => k_is); (case k7 => k_is); (case k8 => ktr_room); (case k9 => exact BindsTo.of_eq rfl); (case kB => exact rfl); (case kD => decide +kernel); (case c2 => exact rfl); (case c3 => exact rfl); (case c4 => exact rfl); k_whole; intro g' L' h' tk' cells' FG' F' N' Y' B' X' T' l1; (try k_lt l1); (obtain ⟨l83, lD, lrest⟩ := l1); k_cells Y'; (try simp only [List.cons_append, List.nil_append] at N'); (try dsimp only); (try k_fold))
  repeat' ((fail_if_success (with_reducible show wpAny _ _ (call (Value.ref _) _) _ _ _)); first | (k_unfold; (try dsimp only)) | (k_end; wrow_close) | walk1 | (dsimp only; walk1) | (leave1; walk_say "STEP leave1"; try dsimp only) | fail "no step")
  · k_dflt (refine' hin (by omega) ?B ?F ?X ?N ?T ?hk C83 ?hoc ?hv ?hI ?hD ?hN hI ?l0 ?a ?b hlen hq ?hd ?_; (case B => k_asm); (case F => k_asm); (case X => k_asm); (case T => k_asm); (case hk => exact rfl); (case N => k_asm); (case hoc => assumption); (case hv => assumption); (case hI => assumption); (case hD => assumption); (case hN => assumption); (case l0 => omega); (case a => omega); (case b => omega); (case hd => ktr_room))
    intro v2 tv2 h2' tk2 F2 N2 e2
    dsimp only
    k_steps
    all_goals (refine hret _ _ _ _ _ _ _ _ (by k_asm) (cb_drop (by k_asm) (List.forall_mem_cons.mpr ⟨by k_mem, (List.forall_mem_cons.mpr ⟨by k_mem, (fun q hq => by repeat (first | exact hq | refine List.Mem.tail _ ?_))⟩)⟩)) ?dg (by assumption) (by assumption) (by assumption) (by first | (rename ((_ ∈ _ ∧ @LT.lt Nat _ _ _) ∨ _) => hl4; exact Or.imp And.left (fun h => by repeat (first | exact h | replace h := And.right h)) hl4)); (case dg => (rw [e2, hval]; rfl)))
  · refine hret _ _ _ _ _ _ _ _ (by k_asm) (cb_drop (by k_asm) (List.forall_mem_cons.mpr ⟨by k_mem, (List.forall_mem_cons.mpr ⟨by k_mem, (fun q hq => by repeat (first | exact hq | refine List.Mem.tail _ ?_))⟩)⟩)) ?dg (by assumption) (by assumption) (by assumption) (by first | (rename ((_ ∈ _ ∧ @LT.lt Nat _ _ _) ∨ _) => hl4; exact Or.imp And.left (fun h => by repeat (first | exact h | replace h := And.right h)) hl4))
    case dg => rw [hval, show ql.length = 0 by omega]; rfl
end
end PartN2
end NN
section PartC4
section
local macro_rules | `(tactic| walk_at "exec For") => `(tactic| (k_here; k_dflt (refine lp_for ?_)))
local macro_rules | `(tactic| walk_at "exec For Name Call cons nil") => `(tactic| (k_here; k_dflt (refine lp_for ?_)))
theorem c_divmod_pos {w : World} {p : Program} {loose : List Str} {mean : ExcName → Option Value} {mg mb : Str → Option Value}
  {x b : Int} {tx tb : Tok} {o1 o2 : Obj} {tS tail : List (Addr × Obj)}
  {dp un : Nat} {gd : Option (List Code)} {cn : Str} {cs : Scope} {a : Addr} {ccd : Value} {cl : List (Str × Addr)} {outer : List Env} {A₀ : Around} {base h₀ : Heap} {L : Addr} {m : Str → Option Value} {s : Shared} {Q E : Value → Shared → Prop}
  (B : Below A₀ base outer h₀) (F : Fr h₀ L s.heap m) (X : (hd.heap_39 w.params).In h₀) (N : News h₀ L s.heap ((76, o1) :: (83, o2) :: tail)) (T : Top p loose mean mg mb h₀) (hk : cs.kind = .function)
  (hx0 : 0 ≤ x) (hx1 : x ≤ 31) (hb0 : 2 ≤ b) (hb1 : b ≤ 5) (C76 : CodeHd base 80 76) (C83 : CodeHd base 87 83) (hS1 : TabSt 76 90 4 (Str.ofString "_int2digits.<locals>.inner") o1 tS) (hS2 : TabSt 83 105 4 (Str.ofString "_digits2int.<locals>.inner") o2 tS) (hsT : ∀ q ∈ tS, q ∈ tail) (hr76 : ∀ p ∈ tail, p.1 ≠ 76) (hr83 : ∀ p ∈ tail, p.1 ≠ 83) (hd : dp + 20 < recursionLimit) (hu : un + 160 < cLine)
  (hret : ∀ (v r : Int) (tv tr : Tok) (t c1 c2 : Addr) (oc1 oc2 : Obj) (vs1 vs2 : Array Value) (t1 t2 : Tok) (h' : Heap) (tk' : Nat) (dr' : Drawn), Fr h₀ L h' m → News h₀ L h' ((t, { cls := .type "tuple", data := .seq #[.int v tv, .int r tr] 0 }) :: (76, tabObj #[rawInt 90, rawInt 4, .ref c1]) :: (c1, oc1) :: (83, tabObj #[rawInt 105, rawInt 4, .ref c2]) :: (c2, oc2) :: tail) → v = x / b → r = x % b → oc1.data = .fields vs1 → vs1[1]? = some (.str (Str.ofString "_int2digits.<locals>.inner") t1) → @Ne Nat c1 76 → ((c1, oc1) ∈ tS ∨ AllLt c1 ((83, o2) :: tail)) → oc2.data = .fields vs2 → vs2[1]? = some (.str (Str.ofString "_digits2int.<locals>.inner") t2) → @Ne Nat c2 83 → ((c2, oc2) ∈ tS ∨ AllLt c2 ((76, tabObj #[rawInt 90, rawInt 4, .ref c1]) :: (c1, oc1) :: tail)) → Q (.ref t) { s with heap := h', drawn := dr', toks := tk' }) :
  wpAny (model Challenge.rw_ny0343_01.row.prog w) (ktrTop dp un gd cn cs L a ccd cl outer) (call (.ref 95) [.int x tx, .int b tb]) Q E s := by
  revert X
  w_top off
  k_fill
  intro X
  have hr76s : ∀ p ∈ tS, p.1 ≠ 76 := fun p hp => hr76 p (hsT p hp)
  have hr83s : ∀ p ∈ tS, p.1 ≠ 83 := fun p hp => hr83 p (hsT p hp)
  have hn : ((Builtin.Int.intBits b : Nat) : Int) = 2 ∨ ((Builtin.Int.intBits b : Nat) : Int) = 3 := nat_range 2 5 (P := fun b => ((Builtin.Int.intBits b : Nat) : Int) = 2 ∨ ((Builtin.Int.intBits b : Nat) : Int) = 3) (by decide +kernel) b hb0 hb1
  refine wpAny_call ?_
  k_dflt cell_enter
  have C76' := CodeHd.keeps C76 (Below.stays (by assumption))
  have C83' := CodeHd.keeps C83 (Below.stays (by assumption))
  repeat' ((fail_if_success (with_reducible show wpAny _ _ (call (Value.ref 81) _) _ _ _)); (fail_if_success (with_reducible show wpAny _ _ (call (Value.ref 67) _) _ _ _)); (fail_if_success (with_reducible show wpAny _ _ (call (Value.ref 88) _) _ _ _)); (fail_if_success (with_reducible show wpAny _ _ (binaryOp Operator.LShift _ _) _ _ _)); (fail_if_success (with_reducible show wpAny _ _ (call (Value.builtin "list.append") _) _ _ _)); (fail_if_success (with_reducible show wpAny _ _ (call (Value.builtin "list.reverse") _) _ _ _)); (fail_if_success (with_reducible show LpSrc _ _ _ _ _ _ _ _ _ _ _)); first | (k_unfold; (try dsimp only)) | (k_end; wrow_close) | walk1 | (dsimp only; walk1) | (leave1; walk_say "STEP leave1"; try dsimp only) | fail "no step")
  generalize ((Builtin.Int.intBits b : Nat) : Int) = n at *
  k_dflt (refine' c_int2digits (oP := o1) (tS := tS) (tail := (83, o2) :: tail) ?B ?F ?X ?N ?T ?hk hx0 hx1 hn C76 hS1 ?hsub ?hr76 ?hd ?hu ?_; (case B => k_asm); (case F => k_asm); (case X => k_asm); (case T => k_asm); (case hk => exact rfl); (case N => k_asm); (case hsub => exact fun q hq => List.mem_cons_of_mem _ (hsT q hq)); (case hr76 => exact fun p hp => (List.mem_cons.mp hp).elim (fun e => e ▸ (show @Ne Nat 83 76 by decide)) (hr76 p)); (case hd => ktr_room); (case hu => ktr_units))
  intro D ds dl c1 oc1 vs1 t1 h1 tk1 F1 N1 hdI hdig a1 a2 a3 a4
  dsimp only
  repeat' ((fail_if_success (with_reducible show wpAny _ _ (call (Value.ref 81) _) _ _ _)); (fail_if_success (with_reducible show wpAny _ _ (call (Value.ref 67) _) _ _ _)); (fail_if_success (with_reducible show wpAny _ _ (call (Value.ref 88) _) _ _ _)); (fail_if_success (with_reducible show wpAny _ _ (binaryOp Operator.LShift _ _) _ _ _)); (fail_if_success (with_reducible show wpAny _ _ (call (Value.builtin "list.append") _) _ _ _)); (fail_if_success (with_reducible show wpAny _ _ (call (Value.builtin "list.reverse") _) _ _ _)); (fail_if_success (with_reducible show LpSrc _ _ _ _ _ _ _ _ _ _ _)); first | (k_unfold; (try dsimp only)) | (k_end; wrow_close) | walk1 | (dsimp only; walk1) | (leave1; walk_say "STEP leave1"; try dsimp only) | fail "no step")
  rename_i qd ha qdl hb I0 h2 F2 N2 l2
  obtain ⟨hd3, hd2, hdb, hval⟩ := hdig
  have hdl : ds.length = dl.length := hdI.length
  have hB : (2 : Int) ^ n.toNat = 4 ∨ (2 : Int) ^ n.toNat = 8 := by
    rcases hn with rfl | rfl
    · exact .inl (by decide)
    · exact .inr (by decide)
  generalize hBn : (2 : Int) ^ n.toNat = B at hB hdb hval
  k_dflt (refine LpSrc.revM (its := ds.toArray) (by rfl) F2 N2 ?off (Str.ofString "r") (Str.ofString "q_digit") (by rfl) (fun i vr nw => ∃ (qv : List Value) (ql : List Int) (e : Nat) (r : Int) (tr : Tok), vr = .int r tr ∧ nw = ((qd, W.listOf qv.toArray e) :: ((D, W.listOf ds.toArray 0) :: (76, tabObj #[rawInt 90, rawInt 4, .ref c1]) :: (c1, oc1) :: (83, o2) :: tail)) ∧ IntsAre qv ql ∧ ql.length = i ∧ (∀ q ∈ ql, 0 ≤ q ∧ q < 64) ∧ 0 ≤ r ∧ r < b ∧ val B (dl.drop (dl.length - i)) = b * val B ql.reverse + r) ?js ?j0 ?tn ?fn)
  case off =>
    intro p hp
    simp only [List.mem_cons] at hp
    rcases hp with rfl | rfl | rfl | rfl | rfl | hp
    · exact Nat.ne_of_lt l2.1
    · exact Nat.ne_of_lt l2.2.1
    · exact Nat.ne_of_lt l2.2.2.1
    · exact Nat.ne_of_lt l2.2.2.2.1
    · exact Nat.ne_of_lt l2.2.2.2.2.1
    · exact Nat.ne_of_lt (allLt_lt l2.2.2.2.2.2 p hp)
  case js =>
    rintro i v nw ⟨qv, ql, e, r, tr, _, rfl, _⟩
    exact .inr ⟨W.listOf ds.toArray 0, by walk_at "mem go", rfl, _, rfl⟩
  case j0 =>
    refine ⟨[], [], 0, 0, _, rfl, rfl, .nil, rfl, (fun q hq => nomatch hq), by omega, by omega, ?_⟩
    rw [Nat.sub_zero, List.drop_length]
    simp [val]
  case fn =>
    intro h30 tk30 dr30 vx vr vq news30 F30 N30 hJ30
    obtain ⟨qv, ql, e, r, tr, rfl, rfl, hqI, hql, hqb, hr0, hrb, hH⟩ := hJ30
    have hql' : ql.length = dl.length := by rw [hql, List.size_toArray, hdl]
    rw [List.size_toArray, hdl, Nat.sub_self, List.drop_zero, hval] at hH
    obtain ⟨eQ, eR⟩ := div_fin hb0 hH hr0 hrb
    dsimp only
    repeat' ((fail_if_success (with_reducible show wpAny _ _ (call (Value.ref 81) _) _ _ _)); (fail_if_success (with_reducible show wpAny _ _ (call (Value.ref 67) _) _ _ _)); (fail_if_success (with_reducible show wpAny _ _ (call (Value.ref 88) _) _ _ _)); (fail_if_success (with_reducible show wpAny _ _ (binaryOp Operator.LShift _ _) _ _ _)); (fail_if_success (with_reducible show wpAny _ _ (call (Value.builtin "list.append") _) _ _ _)); (fail_if_success (with_reducible show wpAny _ _ (call (Value.builtin "list.reverse") _) _ _ _)); (fail_if_success (with_reducible show LpSrc _ _ _ _ _ _ _ _ _ _ _)); first | (k_unfold; (try dsimp only)) | (k_end; wrow_close) | walk1 | (dsimp only; walk1) | (leave1; walk_say "STEP leave1"; try dsimp only) | fail "no step")
    k_dflt (refine kl_reverse (its := qv.toArray) (n := e) F30 N30 rfl (.head ?ne) (by rw [sizeLine_eq]; show qv.length ≤ _; rw [hqI.length]; omega) ?_)
    case ne =>
      intro p hp
      simp only [List.mem_cons] at hp
      rcases hp with rfl | rfl | rfl | rfl | hp
      · exact Nat.ne_of_lt qdl.1
      · exact Nat.ne_of_lt qdl.2.1
      · exact Nat.ne_of_lt qdl.2.2.1
      · exact Nat.ne_of_lt qdl.2.2.2.1
      · exact Nat.ne_of_lt (allLt_lt qdl.2.2.2.2 p hp)
    intro h31 F31 N31
    dsimp only
    repeat' ((fail_if_success (with_reducible show wpAny _ _ (call (Value.ref 81) _) _ _ _)); (fail_if_success (with_reducible show wpAny _ _ (call (Value.ref 67) _) _ _ _)); (fail_if_success (with_reducible show wpAny _ _ (call (Value.ref 88) _) _ _ _)); (fail_if_success (with_reducible show wpAny _ _ (binaryOp Operator.LShift _ _) _ _ _)); (fail_if_success (with_reducible show wpAny _ _ (call (Value.builtin "list.append") _) _ _ _)); (fail_if_success (with_reducible show wpAny _ _ (call (Value.builtin "list.reverse") _) _ _ _)); (fail_if_success (with_reducible show LpSrc _ _ _ _ _ _ _ _ _ _ _)); first | (k_unfold; (try dsimp only)) | (k_end; wrow_close) | walk1 | (dsimp only; walk1) | (leave1; walk_say "STEP leave1"; try dsimp only) | fail "no step")
    k_dflt (refine' c_digits2int (n := n) (qv := qv.reverse) (ql := ql.reverse) (oP := o2) (e := e) (tS := tS) (tail := (76, tabObj #[rawInt 90, rawInt 4, .ref c1]) :: (c1, oc1) :: tail) ?B ?F ?X ?N ?T ?hk (rev_ints hqI) hn (by rw [List.length_reverse]; omega) (by rw [List.length_reverse, hql']; exact hd2) (fun q hq => hqb q (List.mem_reverse.mp hq)) C83 hS2 ?hsub ?hr83 (Nat.ne_of_gt qdl.2.2.2.1) ?hd ?hu ?_; (case B => k_asm); (case F => k_asm); (case X => k_asm); (case T => k_asm); (case hk => exact rfl); (case N => exact fun p hp => N31 p ((by walk_at "sub go" : ∀ p ∈ _, p ∈ _) p hp)); (case hsub => exact fun q hq => List.mem_cons_of_mem _ (List.mem_cons_of_mem _ (hsT q hq))); (case hd => ktr_room); (case hu => ktr_units))
    case hr83 =>
      intro p hp
      simp only [List.mem_cons] at hp
      rcases hp with rfl | rfl | hp
      · exact (show @Ne Nat 76 83 by decide)
      · exact mem_or_lt_ne a4 hr83s List.mem_cons_self
      · exact hr83 p hp
    intro v tv c2 oc2 vs2 t2 h32 tk32 F32 N32 ev b1 b2 b3 b4
    dsimp only
    repeat' ((fail_if_success (with_reducible show wpAny _ _ (call (Value.ref 81) _) _ _ _)); (fail_if_success (with_reducible show wpAny _ _ (call (Value.ref 67) _) _ _ _)); (fail_if_success (with_reducible show wpAny _ _ (call (Value.ref 88) _) _ _ _)); (fail_if_success (with_reducible show wpAny _ _ (binaryOp Operator.LShift _ _) _ _ _)); (fail_if_success (with_reducible show wpAny _ _ (call (Value.builtin "list.append") _) _ _ _)); (fail_if_success (with_reducible show wpAny _ _ (call (Value.builtin "list.reverse") _) _ _ _)); (fail_if_success (with_reducible show LpSrc _ _ _ _ _ _ _ _ _ _ _)); first | (k_unfold; (try dsimp only)) | (k_end; wrow_close) | walk1 | (dsimp only; walk1) | (leave1; walk_say "STEP leave1"; try dsimp only) | fail "no step")
    exact hret v r tv tr _ c1 c2 oc1 oc2 vs1 vs2 t1 t2 _ _ _ (by k_asm) (news_of (by k_asm) (by walk_at "sub go")) (by rw [ev, hBn]; exact eQ) eR a1 a2 a3 a4 b1 b2 b3 b4
  intro I i v vx vr vq news₁ oI h tk dr Q' E' hi hv hJ off F8 N8 k8
  obtain ⟨qv, ql, e, r, tr, rfl, rfl, hqI, hql, hqb, hr0, hrb, hH⟩ := hJ
  rw [List.size_toArray, hdl] at hi hv
  obtain ⟨d, td, rfl, hd9⟩ := IntsAre.at hdI (dl.length - 1 - i) v (by simpa using hv)
  have hdd := hdb d (List.mem_of_getElem? hd9)
  have offm := off1_mem off
  dsimp only
  repeat' ((fail_if_success (with_reducible show wpAny _ _ (call (Value.ref 81) _) _ _ _)); (fail_if_success (with_reducible show wpAny _ _ (call (Value.ref 67) _) _ _ _)); (fail_if_success (with_reducible show wpAny _ _ (call (Value.ref 88) _) _ _ _)); (fail_if_success (with_reducible show wpAny _ _ (binaryOp Operator.LShift _ _) _ _ _)); (fail_if_success (with_reducible show wpAny _ _ (call (Value.builtin "list.append") _) _ _ _)); (fail_if_success (with_reducible show wpAny _ _ (call (Value.builtin "list.reverse") _) _ _ _)); (fail_if_success (with_reducible show LpSrc _ _ _ _ _ _ _ _ _ _ _)); first | (k_unfold; (try dsimp only)) | (k_end; wrow_close) | walk1 | (dsimp only; walk1) | (leave1; walk_say "STEP leave1"; try dsimp only) | fail "no step")
  k_dflt (refine lsh_B hn hBn hr0 (by omega) ?_)
  repeat' ((fail_if_success (with_reducible show wpAny _ _ (call (Value.ref 81) _) _ _ _)); (fail_if_success (with_reducible show wpAny _ _ (call (Value.ref 67) _) _ _ _)); (fail_if_success (with_reducible show wpAny _ _ (call (Value.ref 88) _) _ _ _)); (fail_if_success (with_reducible show wpAny _ _ (binaryOp Operator.LShift _ _) _ _ _)); (fail_if_success (with_reducible show wpAny _ _ (call (Value.builtin "list.append") _) _ _ _)); (fail_if_success (with_reducible show wpAny _ _ (call (Value.builtin "list.reverse") _) _ _ _)); (fail_if_success (with_reducible show LpSrc _ _ _ _ _ _ _ _ _ _ _)); first | (k_unfold; (try dsimp only)) | (k_end; wrow_close) | walk1 | (dsimp only; walk1) | (leave1; walk_say "STEP leave1"; try dsimp only) | fail "no step")
  k_dflt (refine' c_div2n1n ?B ?F ?X ?N ?T ?hk ?h1 ?h2 hb0 hb1 ?h5 ?h6 ?hd ?_; (case B => k_asm); (case F => k_asm); (case X => k_asm); (case T => k_asm); (case hk => exact rfl); (case N => k_asm); (case h1 => (rcases hB with rfl | rfl <;> omega)); (case h2 => (rcases hB with rfl | rfl <;> omega)); (case h5 => omega); (case h6 => omega); (case hd => ktr_room))
  intro q r' t t1' t2' h9 tk9 F9 N9 fresh eq er q0 q2 r0 rb
  dsimp only
  repeat' ((fail_if_success (with_reducible show wpAny _ _ (call (Value.ref 81) _) _ _ _)); (fail_if_success (with_reducible show wpAny _ _ (call (Value.ref 67) _) _ _ _)); (fail_if_success (with_reducible show wpAny _ _ (call (Value.ref 88) _) _ _ _)); (fail_if_success (with_reducible show wpAny _ _ (binaryOp Operator.LShift _ _) _ _ _)); (fail_if_success (with_reducible show wpAny _ _ (call (Value.builtin "list.append") _) _ _ _)); (fail_if_success (with_reducible show wpAny _ _ (call (Value.builtin "list.reverse") _) _ _ _)); (fail_if_success (with_reducible show LpSrc _ _ _ _ _ _ _ _ _ _ _)); first | (k_unfold; (try dsimp only)) | (k_end; wrow_close) | walk1 | (dsimp only; walk1) | (leave1; walk_say "STEP leave1"; try dsimp only) | fail "no step")
  (rename Fr _ _ _ _ => F10)
  (rename News _ _ _ _ => N10)
  k_dflt (refine append_own (n := e) (vs := qv) (rest := (I, oI) :: ((D, W.listOf ds.toArray 0) :: (76, tabObj #[rawInt 90, rawInt 4, .ref c1]) :: (c1, oc1) :: (83, o2) :: tail)) F10 (fun p hp => N10 p ((by walk_at "sub go" : ∀ p ∈ _, p ∈ _) p hp)) ?ne (by rw [hqI.length]; omega) ?_)
  case ne =>
    intro p hp
    simp only [List.mem_cons] at hp
    rcases hp with rfl | rfl | rfl | rfl | rfl | hp
    · exact Ne.symm (offm (qd, W.listOf qv.toArray e) List.mem_cons_self)
    · exact Nat.ne_of_lt qdl.1
    · exact Nat.ne_of_lt qdl.2.1
    · exact Nat.ne_of_lt qdl.2.2.1
    · exact Nat.ne_of_lt qdl.2.2.2.1
    · exact Nat.ne_of_lt (allLt_lt qdl.2.2.2.2 p hp)
  intro h11 F11 N11
  dsimp only
  repeat' ((fail_if_success (with_reducible show wpAny _ _ (call (Value.ref 81) _) _ _ _)); (fail_if_success (with_reducible show wpAny _ _ (call (Value.ref 67) _) _ _ _)); (fail_if_success (with_reducible show wpAny _ _ (call (Value.ref 88) _) _ _ _)); (fail_if_success (with_reducible show wpAny _ _ (binaryOp Operator.LShift _ _) _ _ _)); (fail_if_success (with_reducible show wpAny _ _ (call (Value.builtin "list.append") _) _ _ _)); (fail_if_success (with_reducible show wpAny _ _ (call (Value.builtin "list.reverse") _) _ _ _)); (fail_if_success (with_reducible show LpSrc _ _ _ _ _ _ _ _ _ _ _)); first | (k_unfold; (try dsimp only)) | (k_end; wrow_close) | walk1 | (dsimp only; walk1) | (leave1; walk_say "STEP leave1"; try dsimp only) | fail "no step")
  refine k8 _ _ _ (some (.int d td)) (.int r' t2') (some (.int q t1')) _ (fr_congr F11 fun y => (by by_cases hy0 : y = Str.ofString "r"; (case pos => (subst hy0; rfl)); by_cases hy1 : y = Str.ofString "a_digit"; (case pos => (subst hy1; rfl)); by_cases hy2 : y = Str.ofString "q_digit"; (case pos => (subst hy2; rfl)); simp only [hy0, hy1, hy2, if_false])) (news_swap N11) (off1_map rfl off) ⟨qv ++ [.int q t1'], ql ++ [q], e + 1, r', t2', rfl, rfl, ints_snoc hqI q t1', by rw [List.length_append, List.length_singleton, hql], ?_, r0, rb, ?_⟩
  · intro z hz
    rcases List.mem_append.mp hz with hz | hz
    · exact hqb z hz
    · rw [List.mem_singleton.mp hz]
      exact ⟨q0, by rcases hB with rfl | rfl <;> omega⟩
  · have e1 : dl.drop (dl.length - (i + 1)) = d :: dl.drop (dl.length - i) := by
      have hlt : dl.length - 1 - i < dl.length := by omega
      rw [show dl.length - (i + 1) = dl.length - 1 - i by omega, List.drop_eq_getElem_cons hlt, show dl.length - 1 - i + 1 = dl.length - i by omega]
      congr 1
      exact Option.some.inj ((List.getElem?_eq_getElem hlt).symm.trans hd9)
    rw [e1, List.reverse_append, List.reverse_singleton, List.singleton_append, val, val, hH]
    refine div_step hB ?_
    rw [eq, er]
    exact (Int.mul_fdiv_add_fmod _ _).symm
end
end PartC4
section PartRx
/-- what a bead may be worth: the products of at most four bases -/
def worthList : List Nat := [1, 2, 3, 4, 5, 6, 8, 9, 10, 12, 15, 16, 18, 20, 24, 25, 27, 30, 32, 36, 40, 45, 48, 50, 54, 60, 64, 72, 75, 80, 81, 90, 96, 100, 108, 120, 125, 128, 135, 144, 150, 160, 180, 192, 200, 225, 240, 250, 256, 300, 320, 375, 400, 500, 625]
def num (n : Nat) : Str := Str.ofString (toString (n : Int))
def letter (k : Nat) : Str := Str.mk #[97 + k]
def great (k : Nat) : Str := Str.mk #[65 + k]
def safeList : List Str := (List.range 5).map letter ++ (List.range 5).map great ++ worthList.map num
def isNone (x : Option Fin) : Bool := match x with
  | some (.done (.ret .none)) => true
  | _ => false
theorem isNone_eq {x : Option Fin} (h : isNone x = true) : x = some (.done (.ret .none)) := by
  unfold isNone at h
  split at h
  · rfl
  · cases h
theorem srch105 (w : World) (prog : Program) (t : Tok) : (safeList.all fun x => isNone (peek (hd.heap_39 w.params) ⟨prog, w.params⟩ (Builtin.«re.Pattern.search» ⟨[.ref 105, .str x t], []⟩))) = true := by kernel_rfl
theorem srch110 (w : World) (prog : Program) (t : Tok) : (safeList.all fun x => isNone (peek (hd.heap_39 w.params) ⟨prog, w.params⟩ (Builtin.«re.Pattern.search» ⟨[.ref 110, .str x t], []⟩))) = true := by kernel_rfl
theorem slot_search : Slot "re.Pattern" "search" "re.Pattern.search" :=
  .of (owner := "re.Pattern") (n := "search") (by rw [typeLookup_type, builtinLookup_eq_fast]; kernel_rfl) (by decide +kernel) (by decide +kernel) (by decide +kernel)
    (by first | exact .inl (by decide +kernel) | exact .inr (by decide +kernel)) (by rw [isSubtype_type]; kernel_rfl)
theorem entry_search : entryFor table "re.Pattern.search" = some Builtin.«re.Pattern.search» := entryFor_of_tree (by kernel_rfl)
theorem args_search (a b : Value) : argsOk "re.Pattern.search" ⟨[a, b], []⟩ := by
  first
  | (unfold argsOk; kernel_rfl)
  | kernel_rfl
section
variable {prog : Program} {w : World} {A : Around} {E : Value → Shared → Prop} {s : Shared}
theorem obj_105 (P : Params) : ∃ o, (hd.heap_39 P).lookup 105 = some o ∧ o.cls = .type "re.Pattern" ∧ o.dict = none := ⟨_, rfl, rfl, rfl⟩
theorem obj_110 (P : Params) : ∃ o, (hd.heap_39 P).lookup 110 = some o ∧ o.cls = .type "re.Pattern" ∧ o.dict = none := ⟨_, rfl, rfl, rfl⟩
theorem plain_re : PlainAttrs "re.Pattern" :=
  ⟨⟨"object.__getattribute__", by rw [typeLookup_type, builtinLookup_eq_fast]; kernel_rfl, by decide +kernel⟩, by rw [typeLookup_type, builtinLookup_eq_fast]; kernel_rfl⟩
theorem type_search : typeOf (.builtin "re.Pattern.search") = pure (.type "method_descriptor") := by show builtinType _ = _; rw [builtinType_eq_fast]; kernel_rfl
theorem getMethod_105 {pl : Sem Bool} {Q : Value × List Value → Shared → Prop} (X : (hd.heap_39 w.params).In s.heap) (h : Q (.builtin "re.Pattern.search", [.ref 105]) s) : wpAny (model prog w) A (getMethod (.ref 105) (Str.ofString "search") pl) Q E s := by
  obtain ⟨o, ho, hc, hn⟩ := obj_105 w.params
  exact getMethod_builtin ⟨o, X _ _ ho, hc⟩ plain_re slot_search type_search (fun _ e => by cases e; exact ⟨o, X _ _ ho, hn⟩) h
theorem getMethod_110 {pl : Sem Bool} {Q : Value × List Value → Shared → Prop} (X : (hd.heap_39 w.params).In s.heap) (h : Q (.builtin "re.Pattern.search", [.ref 110]) s) : wpAny (model prog w) A (getMethod (.ref 110) (Str.ofString "search") pl) Q E s := by
  obtain ⟨o, ho, hc, hn⟩ := obj_110 w.params
  exact getMethod_builtin ⟨o, X _ _ ho, hc⟩ plain_re slot_search type_search (fun _ e => by cases e; exact ⟨o, X _ _ ho, hn⟩) h
theorem search_105 {x : Str} {t : Tok} {Q : Value → Shared → Prop} (X : (hd.heap_39 w.params).In s.heap) (hx : x ∈ safeList) (h : Q .none s) : wpAny (model prog w) A (call (.builtin "re.Pattern.search") [.ref 105, .str x t]) Q E s := by
  obtain ⟨o, ho, hc, _⟩ := obj_105 w.params
  refine wpAny_call_entry slot_search ⟨o, X _ _ ho, hc⟩ entry_search ?_ (args_search _ _)
  exact (Looks.of_peek (M := model prog w) X (isNone_eq (List.all_eq_true.mp (srch105 w prog t) x hx))).here ⟨.none, rfl, h⟩
theorem search_110 {x : Str} {t : Tok} {Q : Value → Shared → Prop} (X : (hd.heap_39 w.params).In s.heap) (hx : x ∈ safeList) (h : Q .none s) : wpAny (model prog w) A (call (.builtin "re.Pattern.search") [.ref 110, .str x t]) Q E s := by
  obtain ⟨o, ho, hc, _⟩ := obj_110 w.params
  refine wpAny_call_entry slot_search ⟨o, X _ _ ho, hc⟩ entry_search ?_ (args_search _ _)
  exact (Looks.of_peek (M := model prog w) X (isNone_eq (List.all_eq_true.mp (srch110 w prog t) x hx))).here ⟨.none, rfl, h⟩
end
end PartRx
section PartC5
section
local macro_rules | `(tactic| walk_at "getMethod ref") => `(tactic| (k_here; (with_reducible show wpAny _ _ (getMethod (Value.ref 105) _ _) _ _ _); k_dflt (refine getMethod_105 (by k_in) ?_)))
local macro_rules | `(tactic| walk_at "getMethod ref") => `(tactic| (k_here; (with_reducible show wpAny _ _ (getMethod (Value.ref 110) _ _) _ _ _); k_dflt (refine getMethod_110 (by k_in) ?_)))
local macro_rules | `(tactic| walk_at "call builtin:re.Pattern.search") => `(tactic| (k_here; k_dflt (first | refine search_105 (by k_in) (by assumption) ?_ | refine search_110 (by k_in) (by assumption) ?_)))
theorem c_conv_true {w : World} {p : Program} {loose : List Str} {mean : ExcName → Option Value} {mg mb : Str → Option Value}
  {x : Str} {tx : Tok} {self : Value} {news : List (Addr × Obj)}
  {dp un : Nat} {gd : Option (List Code)} {cn : Str} {cs : Scope} {a : Addr} {ccd : Value} {cl : List (Str × Addr)} {outer : List Env} {A₀ : Around} {base h₀ : Heap} {L : Addr} {m : Str → Option Value} {s : Shared} {Q E : Value → Shared → Prop}
  (B : Below A₀ base outer h₀) (F : Fr h₀ L s.heap m) (X : (hd.heap_39 w.params).In h₀) (N : News h₀ L s.heap news) (T : Top p loose mean mg mb h₀) (hk : cs.kind = .function)
  (hx : x ∈ safeList) (hd : dp + 1 < recursionLimit)
  (hret : ∀ h' tk', Fr h₀ L h' m → News h₀ L h' news → Q (.str x tx) { s with heap := h', toks := tk' }) :
  wpAny (model Challenge.rw_ny0343_01.row.prog w) (ktrTop dp un gd cn cs L a ccd cl outer) (call (.ref 140) [self, .str x tx] [(Str.ofString "name", .bool true)]) Q E s := by
  revert X
  w_top off
  k_fill
  intro X
  refine wpAny_call ?_
  k_dflt cell_enter
  k_steps
  all_goals first
    | exact hret _ _ (by k_asm) (by k_asm)
    | trace_state
theorem c_conv_false {w : World} {p : Program} {loose : List Str} {mean : ExcName → Option Value} {mg mb : Str → Option Value}
  {x : Str} {tx : Tok} {self : Value} {news : List (Addr × Obj)}
  {dp un : Nat} {gd : Option (List Code)} {cn : Str} {cs : Scope} {a : Addr} {ccd : Value} {cl : List (Str × Addr)} {outer : List Env} {A₀ : Around} {base h₀ : Heap} {L : Addr} {m : Str → Option Value} {s : Shared} {Q E : Value → Shared → Prop}
  (B : Below A₀ base outer h₀) (F : Fr h₀ L s.heap m) (X : (hd.heap_39 w.params).In h₀) (N : News h₀ L s.heap news) (T : Top p loose mean mg mb h₀) (hk : cs.kind = .function)
  (hx : x ∈ safeList) (hd : dp + 1 < recursionLimit)
  (hret : ∀ h' tk', Fr h₀ L h' m → News h₀ L h' news → Q (.str x tx) { s with heap := h', toks := tk' }) :
  wpAny (model Challenge.rw_ny0343_01.row.prog w) (ktrTop dp un gd cn cs L a ccd cl outer) (call (.ref 140) [self, .str x tx] [(Str.ofString "name", .bool false)]) Q E s := by
  revert X
  w_top off
  k_fill
  intro X
  refine wpAny_call ?_
  k_dflt cell_enter
  k_steps
  all_goals first
    | exact hret _ _ (by k_asm) (by k_asm)
    | trace_state
end
end PartC5
section PartC6
section
theorem news_drop2 {h₀ h : Heap} {L : Addr} {p q : Addr × Obj} {r : List (Addr × Obj)} (N : News h₀ L h (p :: q :: r)) : News h₀ L h (p :: r) := fun x hx => by
  rcases List.mem_cons.mp hx with rfl | hx
  · exact N _ (.head _)
  · exact N _ (.tail _ (.tail _ hx))
theorem safe_len : ∀ x ∈ safeList, x.length ≤ 3 := by
  have h : (safeList.all fun x => decide (x.length ≤ 3)) = true := by kernel_rfl
  exact fun x hx => of_decide_eq_true (List.all_eq_true.mp h x hx)
theorem join_one {prog : Program} {w : World} {A : Around} {E : Value → Shared → Prop} {s : Shared} {Q : Value → Shared → Prop} {D : Addr} {vl : Str} {t t2 : Tok} (hl : s.heap.IsList D #[.str vl t2]) (hv : vl ∈ safeList)
    (h : ∀ t' k, Q (.str vl t') { s with toks := k }) : wpAny (model prog w) A (call (.builtin "str.join") [.str (Str.ofString "; ") t, .ref D]) Q E s :=
  join_listC (ys := [vl]) hl (.cons _ _ .nil) (by decide) (by have := safe_len _ hv; simp only [List.map_cons, List.map_nil, List.sum_cons, List.sum_nil, List.length_cons, List.length_nil]; omega) h
local macro_rules | `(tactic| walk_at "none of mine") => `(tactic| fail)
local macro_rules | `(tactic| walk_at "call ref") => `(tactic| (k_here; (with_reducible show wpAny _ _ (call (Value.ref 140) _ _) _ _ _); k_dflt (first | (refine' c_conv_true ?B ?F ?X ?N ?T ?hk ?hx ?hd ?_; (case B => k_asm); (case F => k_asm); (case X => k_asm); (case T => k_asm); (case hk => exact rfl); (case N => k_asm); (case hx => assumption); (case hd => ktr_room)) | (refine' c_conv_false ?B ?F ?X ?N ?T ?hk ?hx ?hd ?_; (case B => k_asm); (case F => k_asm); (case X => k_asm); (case T => k_asm); (case hk => exact rfl); (case N => k_asm); (case hx => assumption); (case hd => ktr_room))); intro h9 tk9 F9 N9; (try dsimp only); (try k_sweep)))
local macro_rules | `(tactic| walk_at "call builtin:str.join") => `(tactic| (k_here; k_dflt (refine join_one (by is_list) (by assumption) ?_); intro t9 k9))
local macro_rules | `(tactic| walk_at "call builtin:list.append") => `(tactic| (k_here; (with_reducible show wpAny _ _ (call (Value.builtin _) [Value.ref _, Value.ref _]) _ _ _); (rename News _ _ _ _ => N9); (replace N9 := news_drop2 N9); k_dflt (refine' append_K ?k1 ?k2 ?k3 ?_ ?z; (case k1 => k_asm); (case k2 => exact N9); (case k3 => k_upd); (case z => (rw [sizeLine_eq]; omega)); k_whole); intro h' F' N'; (try k_sweep)))
theorem c_add {w : World} {p : Program} {loose : List Str} {mean : ExcName → Option Value} {mg mb : Str → Option Value}
  {nm vl : Str} {t1 t2 kt : Tok} {tb td lst : Addr} {its : Array Value} {e : Nat} {tail : List (Addr × Obj)}
  {dp un : Nat} {gd : Option (List Code)} {cn : Str} {cs : Scope} {a : Addr} {ccd : Value} {cl : List (Str × Addr)} {outer : List Env} {A₀ : Around} {base h₀ : Heap} {L : Addr} {m : Str → Option Value} {s : Shared} {Q E : Value → Shared → Prop}
  (B : Below A₀ base outer h₀) (F : Fr h₀ L s.heap m) (X : (hd.heap_39 w.params).In h₀) (N : News h₀ L s.heap ((tb, instObj 239 td) :: (td, dictOf [{ hash := PyData.keyHash w.params (Str.ofString "_headers"), key := .str (Str.ofString "_headers") kt, val := .ref lst }] 1) :: (lst, W.listOf its e) :: tail)) (T : Top p loose mean mg mb h₀) (hk : cs.kind = .function)
  (hn : nm ∈ safeList) (hv : vl ∈ safeList) (h1 : @Ne Nat tb lst) (h2 : @Ne Nat td lst) (hr : ∀ p ∈ tail, p.1 ≠ lst) (hsz : its.size < 1000) (hd : dp + 10 < recursionLimit) (hu : un + 100 < cLine)
  (hret : ∀ (t : Addr) (t3 : Tok) (h' : Heap) (tk' : Nat), Fr h₀ L h' m → News h₀ L h' ((tb, instObj 239 td) :: (td, dictOf [{ hash := PyData.keyHash w.params (Str.ofString "_headers"), key := .str (Str.ofString "_headers") kt, val := .ref lst }] 1) :: (lst, W.listOf (its.push (.ref t)) (e + 1)) :: (t, { cls := .type "tuple", data := .seq #[.str nm t1, .str vl t3] 0 }) :: tail) → AllLt t ((tb, instObj 239 td) :: (td, dictOf [{ hash := PyData.keyHash w.params (Str.ofString "_headers"), key := .str (Str.ofString "_headers") kt, val := .ref lst }] 1) :: (lst, W.listOf its e) :: tail) → Q .none { s with heap := h', toks := tk' }) :
  wpAny (model Challenge.rw_ny0343_01.row.prog w) (ktrTop dp un gd cn cs L a ccd cl outer) (call (.ref 236) [.ref tb, .str nm t1, .str vl t2]) Q E s := by
  revert X
  w_top off
  k_fill
  intro X
  refine wpAny_call ?_
  k_dflt (refine' kp_more ?k1 ?k2 ?k3 ?k4 ?k5 ?kA ?kF ?kK ?k6 ?k7 ?k8 ?kX ?kM ?kN ?kD ?kR ?kP ?kT ?kB ?_ ?c2 ?c3 ?c4 ?c5; (case kA => exact rfl); (case kF => exact rfl); (case kK => assumption); (case k1 => k_asm); (case k2 => k_asm); (case k3 => k_asm); (case k4 => k_asm); (case k5 => k_asm); (case k6 => k_is); (case k7 => k_is); (case k8 => ktr_room); (case kX => kp_lit); (case kM => exact rfl); (case kN => exact rfl); (case kD => kp_flats); (case kR => exact rfl); (case kP => exact rfl); (case kT => exact fun _ => rfl); (case kB => exact fun _ => locs rfl); (case c5 => decide); (case c2 => exact rfl); (case c3 => exact rfl); (case c4 => exact rfl); k_whole; intro D' o' g' L' h' tk' l1 lo' hs' fs' FG' F' N' B' X' T'; (try k_lt l1); (try dsimp only); (try k_lift B'); (try k_fold))
  k_steps
  all_goals first
    | (refine hret _ _ _ _ (by k_asm) (cb_drop (by k_asm) (List.forall_mem_cons.mpr ⟨by k_mem, (List.forall_mem_cons.mpr ⟨by k_mem, (List.forall_mem_cons.mpr ⟨by k_mem, (List.forall_mem_cons.mpr ⟨by k_mem, (fun q hq => by repeat (first | exact hq | refine List.Mem.tail _ ?_))⟩)⟩)⟩)⟩)) ?_; simp only [AllLt]; simp only [*, and_self])
    | trace_state
end
end PartC6
section PartC7
structure Hd where
  a : Addr
  k : Nat
  up : Bool
  tn : Tok
  n : Nat
  tv : Tok
def nmOf (k : Nat) (up : Bool) : Str := if up then great k else letter k
def hdObj (h : Hd) : Obj := { cls := .type "tuple", data := .seq #[.str (nmOf h.k h.up) h.tn, .str (num h.n) h.tv] 0 }
def hdNews (hs : List Hd) : List (Addr × Obj) := hs.map fun h => (h.a, hdObj h)
def hdRefs (hs : List Hd) : List Value := hs.map fun h => .ref h.a
def HdOk (hs : List Hd) : Prop := ∀ h ∈ hs, h.k < 5 ∧ h.n ∈ worthList
theorem nm_safe {k : Nat} {up : Bool} (h : k < 5) : nmOf k up ∈ safeList := by
  have : ∀ k < 5, nmOf k true ∈ safeList ∧ nmOf k false ∈ safeList := by decide +kernel
  cases up
  · exact (this k h).2
  · exact (this k h).1
theorem letter_safe {k : Nat} (h : k < 5) : letter k ∈ safeList := nm_safe (up := false) h
theorem num_safe {n : Nat} (h : n ∈ worthList) : num n ∈ safeList := List.mem_append_right _ (List.mem_map_of_mem h)
theorem nm_lower {k : Nat} {up : Bool} (h : k < 5) : Txt.lower (nmOf k up) = letter k := by
  have : ∀ k < 5, Txt.lower (nmOf k true) = letter k ∧ Txt.lower (nmOf k false) = letter k := by decide +kernel
  cases up
  · exact (this k h).2
  · exact (this k h).1
theorem letter_inj {j k : Nat} (h : letter j = letter k) : j = k := by
  unfold letter at h
  injection h with h
  have := congrArg (fun a => a[0]?) h
  simp at this
  omega
theorem letter_beq {j k : Nat} : (letter j == letter k) = (j == k) := by
  by_cases h : j = k
  · subst h; simp
  · have : letter j ≠ letter k := fun e => h (letter_inj e)
    rw [beq_eq_false_iff_ne.mpr this, beq_eq_false_iff_ne.mpr h]
theorem lower_nm {prog : Program} {w : World} {A : Around} {E : Value → Shared → Prop} {s : Shared} {Q : Value → Shared → Prop} {k : Nat} {up : Bool} {t : Tok} (h : k < 5) (hq : ∀ t' i, Q (.str (letter k) t') { s with toks := i }) :
    wpAny (model prog w) A (call (.builtin "str.lower") [.str (nmOf k up) t]) Q E s :=
  KXw.lower (nm_lower h) (by rw [nm_lower h]; rfl) hq
section
open PyProof.Rows.LCg PyProof.Rows.LCt
variable {prog : Program} {w : World} {A : Around} {h₀ : Heap} {L : Addr} {m : Str → Option Value} {env : Env} {ct elt : Expr} {x : Str} {scope : Scope} {cl : List (Str × Addr)} {s : Shared} {S : List (Addr × Obj) → Prop} {Fin : List Value → List (Addr × Obj) → Prop} {news : List (Addr × Obj)}
/-- one turn of a comprehension with a test over the headers: the heap stays, the test says f, the element is g -/
def HdTurn (prog : Program) (w : World) (A : Around) (h₀ : Heap) (L : Addr) (m : Str → Option Value) (env : Env) (ct elt : Expr) (x : Str) (scope : Scope) (cl : List (Str × Addr)) (s : Shared) (news : List (Addr × Obj)) (f : Hd → Bool) (g : Hd → Value) (h : Hd) : Prop :=
  ∀ I oI C oC D ys m₂ hp tk (E' : Value → Shared → Prop) (R1 : Value → Shared → Prop) (R2 : Shared → Prop), NsObj oC m₂ → m₂ x = some (.ref h.a) → Fr h₀ L hp m → News h₀ L hp ((I, oI) :: (C, oC) :: (D, LCg.lst ys) :: news) → Off3 I C D news →
    (f h = true → ∀ tk', R1 (g h) { s with heap := hp, toks := tk' }) → (f h = false → ∀ tk', R2 { s with heap := hp, toks := tk' }) →
    wpAny (model prog w) A (isTrue ct (compEnvC scope cl C env) (eval ct (compEnvC scope cl C env))) (fun ok s' => if ok = true then wpAny (model prog w) A (eval elt (compEnvC scope cl C env)) R1 E' s' else R2 s') E' { s with heap := hp, toks := tk }
theorem comp_loop (f : Hd → Bool) (g : Hd → Value) (hs : List Hd) (hS : S news)
    (turn : ∀ h ∈ hs, HdTurn prog w A h₀ L m env ct elt x scope cl s news f g h) (fin : Fin ((hs.filter f).map g) news) :
    CompRestT prog w A h₀ L m env ct elt x scope cl s S (fun i v => (hdRefs hs).toArray[i]? = some v) Fin (hdRefs hs).toArray.size 0 [] news := by
  have key : ∀ k i, i + k = hs.length → CompRestT prog w A h₀ L m env ct elt x scope cl s S (fun i v => (hdRefs hs).toArray[i]? = some v) Fin k i (((hs.take i).filter f).map g) news := by
    intro k
    induction k with
    | zero =>
      intro i hi
      rw [List.take_of_length_le (by omega)]
      exact CompRestT.zero fin
    | succ k ih =>
      intro i hi
      refine CompRestT.succ ?_
      intro v I oI C oC D m₂ hp tk E' hv hC hx F N off ne
      have hlt : i < hs.length := by omega
      have hv' : v = .ref hs[i].a := by
        have : (hdRefs hs).toArray[i]? = some (.ref hs[i].a) := by simp [hdRefs, hlt]
        rw [this] at hv
        exact (Option.some.inj hv).symm
      subst hv'
      have nxt := ih (i + 1) (by omega)
      have e0 : hs.take (i + 1) = hs.take i ++ [hs[i]] := by rw [List.take_add_one, List.getElem?_eq_getElem hlt]; rfl
      have e1 : f hs[i] = true → ((hs.take (i + 1)).filter f).map g = ((hs.take i).filter f).map g ++ [g hs[i]] := fun hf => by
        rw [e0, List.filter_append, List.filter_cons_of_pos hf, List.filter_nil, List.map_append]; rfl
      have e2 : f hs[i] = false → ((hs.take (i + 1)).filter f).map g = ((hs.take i).filter f).map g := fun hf => by
        rw [e0, List.filter_append, List.filter_cons_of_neg (by rw [hf]; exact Bool.false_ne_true), List.filter_nil, List.append_nil]
      refine turn hs[i] (List.getElem_mem hlt) I oI C oC D _ m₂ hp tk E' _ _ hC hx F N off (fun hf tk' => ?_) (fun hf tk' => ?_)
      · refine CompEnd.intro F N news (fun p hp => hp) off hS ?_
        rw [e1 hf] at nxt; exact nxt
      · refine CompEnd.intro F N news (fun p hp => hp) off hS ?_
        rw [e2 hf] at nxt; exact nxt
  have := key hs.length 0 (by omega)
  simpa [hdRefs] using this
theorem comp_get {k : Nat} {o : Obj} {t : Tok} {hs : List Hd} (_hd : o.data = .cell (some (.str (letter k) t))) (hS : S news) (turn : ∀ h ∈ hs, HdTurn prog w A h₀ L m env ct elt x scope cl s news (fun h => h.k == k) (fun h => .str (num h.n) h.tv) h)
    (fin : Fin ((hs.filter fun h => h.k == k).map fun h => .str (num h.n) h.tv) news) :
    CompRestT prog w A h₀ L m env ct elt x scope cl s S (fun i v => (hdRefs hs).toArray[i]? = some v) Fin (hdRefs hs).toArray.size 0 [] news := comp_loop _ _ hs hS turn fin
theorem comp_del {k : Nat} {o : Obj} {t : Tok} {hs : List Hd} (_hd : o.data = .cell (some (.str (letter k) t))) (hS : S news) (turn : ∀ h ∈ hs, HdTurn prog w A h₀ L m env ct elt x scope cl s news (fun h => !(h.k == k)) (fun h => .ref h.a) h)
    (fin : Fin ((hs.filter fun h => !(h.k == k)).map fun h => .ref h.a) news) :
    CompRestT prog w A h₀ L m env ct elt x scope cl s S (fun i v => (hdRefs hs).toArray[i]? = some v) Fin (hdRefs hs).toArray.size 0 [] news := comp_loop _ _ hs hS turn fin
theorem hd_mem {hs : List Hd} {h : Hd} {rest : List (Addr × Obj)} (hsub : ∀ q ∈ hdNews hs, q ∈ rest) (hm : h ∈ hs) : (h.a, ({ cls := .type "tuple", data := .seq #[.str (nmOf h.k h.up) h.tn, .str (num h.n) h.tv] 0 } : Obj)) ∈ rest :=
  hsub _ (List.mem_map.mpr ⟨h, hm, rfl⟩)
end
end PartC7
section C7C8
local macro_rules | `(tactic| walk_at "call ref") => `(tactic| (k_here; (with_reducible show wpAny _ _ (call (Value.ref 140) _ _) _ _ _); k_dflt (first | (refine' c_conv_true ?B ?F ?X ?N ?T ?hk ?hx ?hd ?_; (case B => k_asm); (case F => k_asm); (case X => k_asm); (case T => k_asm); (case hk => exact rfl); (case N => k_asm); (case hx => first | assumption | exact letter_safe (by assumption) | exact nm_safe (by assumption)); (case hd => ktr_room)) | (refine' c_conv_false ?B ?F ?X ?N ?T ?hk ?hx ?hd ?_; (case B => k_asm); (case F => k_asm); (case X => k_asm); (case T => k_asm); (case hk => exact rfl); (case N => k_asm); (case hx => first | assumption | exact letter_safe (by assumption) | exact nm_safe (by assumption)); (case hd => ktr_room))); intro h9 tk9 F9 N9; (try dsimp only); (try k_sweep)))
local macro_rules | `(tactic| walk_at "call builtin:str.lower") => `(tactic| (k_here; (with_reducible show wpAny _ _ (call (Value.builtin "str.lower") [Value.str (nmOf _ _) _]) _ _ _); k_dflt (refine lower_nm (by assumption) ?_); intro t9 k9))
local macro_rules | `(tactic| walk_at "subscriptTail") => `(tactic| (k_here; (with_reducible show wpAny _ _ (subscriptTail _ _ (Value.ref (Hd.a _)) (Value.int _ _)) _ _ _); k_dflt (refine' item_tupleT ?t ?a ?b ?c ?d ?_; (case t => exact News.isTup (by assumption) (by repeat (first | assumption | refine List.Mem.tail _ ?_))); (case a => decide); (case b => decide); (case c => rfl); (case d => rfl))))
local macro_rules | `(tactic| walk_at "eval ListComp") => `(tactic| (k_here; k_dflt (refine LCt.ListComp_T (F₀ := by k_asm) (by with_unfolding_all rfl) (by decide) (by rfl) (by decide) (by rfl) ?_)))
local macro_rules | `(tactic| walk_at "CompSrcT") => `(tactic| (k_here; k_dflt (refine LCt.CompSrcT.ledger (by rfl) (by k_asm) (by k_asm) (by k_mem) (by (rw [sizeLine_eq]; simp only [hdRefs, List.size_toArray, List.length_map]; omega)) ?_); intro g9; k_dflt (refine comp_get (by assumption) ?_ ?_ ?_); (exact Or.inr ⟨_, by k_mem, rfl, _, rfl⟩); (intro hd9 hm9; have hq9 := hd_mem (by assumption) hm9; have hk9 := (by assumption : HdOk _) _ hm9; have hk8 := And.left hk9; unfold HdTurn; intro I9 oI9 C9 oC9 D9 ys9 m9 hp9 tk9 E9 R1 R2 hC9 hx9 F9 N9 off9 hR1 hR2)))
theorem c_get {w : World} {p : Program} {loose : List Str} {mean : ExcName → Option Value} {mg mb : Str → Option Value}
  {k : Nat} {up : Bool} {t1 kt : Tok} {tb td lst : Addr} {hs : List Hd} {e : Nat} {rest : List (Addr × Obj)}
  {dp un : Nat} {gd : Option (List Code)} {cn : Str} {cs : Scope} {a : Addr} {ccd : Value} {cl : List (Str × Addr)} {outer : List Env} {A₀ : Around} {base h₀ : Heap} {L : Addr} {m : Str → Option Value} {s : Shared} {Q E : Value → Shared → Prop}
  (B : Below A₀ base outer h₀) (F : Fr h₀ L s.heap m) (X : (hd.heap_39 w.params).In h₀) (N : News h₀ L s.heap ((tb, instObj 239 td) :: (td, dictOf [{ hash := PyData.keyHash w.params (Str.ofString "_headers"), key := .str (Str.ofString "_headers") kt, val := .ref lst }] 1) :: (lst, W.listOf (hdRefs hs).toArray e) :: rest)) (T : Top p loose mean mg mb h₀) (hk : cs.kind = .function)
  (hk5 : k < 5) (hok : HdOk hs) (hsub : ∀ q ∈ hdNews hs, q ∈ rest) (hsz : hs.length < 1000) (hd : dp + 10 < recursionLimit) (hu : un + 100 < cLine)
  (hret : ∀ (t : Addr) (h' : Heap) (tk' : Nat), Fr h₀ L h' m → News h₀ L h' ((t, W.listOf ((hs.filter fun h => h.k == k).map fun h => Value.str (num h.n) h.tv).toArray ((hs.filter fun h => h.k == k).map fun h => Value.str (num h.n) h.tv).length) :: (tb, instObj 239 td) :: (td, dictOf [{ hash := PyData.keyHash w.params (Str.ofString "_headers"), key := .str (Str.ofString "_headers") kt, val := .ref lst }] 1) :: (lst, W.listOf (hdRefs hs).toArray e) :: rest) → LCg.Off1 t ((tb, instObj 239 td) :: (td, dictOf [{ hash := PyData.keyHash w.params (Str.ofString "_headers"), key := .str (Str.ofString "_headers") kt, val := .ref lst }] 1) :: (lst, W.listOf (hdRefs hs).toArray e) :: rest) → Q (.ref t) { s with heap := h', toks := tk' }) :
  wpAny (model Challenge.rw_ny0343_01.row.prog w) (ktrTop dp un gd cn cs L a ccd cl outer) (call (.ref 178) [.ref tb, .str (nmOf k up) t1]) Q E s := by
  revert X
  w_top off
  k_fill
  intro X
  refine wpAny_call ?_
  k_dflt (refine' code_defC ?k1 ?k2 ?k3 ?k4 ?k5 ?kA ?kF ?kK ?k6 ?k7 ?k8 ?k9 ?kB ?kD ?_ ?c2 ?c3 ?c4; (case kA => exact rfl); (case kF => exact rfl); (case kK => assumption); (case k1 => k_asm); (case k2 => k_asm); (case k3 => k_asm); (case k4 => k_asm); (case k5 => k_asm); (case k6 => k_is); (case k7 => k_is); (case k8 => ktr_room); (case k9 => exact BindsTo.of_eq rfl); (case kB => exact rfl); (case kD => decide +kernel); (case c2 => exact rfl); (case c3 => exact rfl); (case c4 => exact rfl); k_whole; intro g' L' h' tk' cells' FG' F' N' Y' B' X' T' l1; (try k_lt l1);  k_cells Y'; (try simp only [List.cons_append, List.nil_append] at N'); (try dsimp only); (try k_fold))
  k_steps
  all_goals first
    | (rename_i hR1 hR2 cE t9 k9 ha; rw [letter_beq] at ha; exact hR1 ha _)
    | (rename_i hR1 hR2 cE t9 k9 ha; rw [letter_beq] at ha; exact hR2 ha _)
    | (refine hret _ _ _ (by k_asm) (cb_drop (by k_asm) (List.forall_mem_cons.mpr ⟨by k_mem, (List.forall_mem_cons.mpr ⟨by k_mem, (List.forall_mem_cons.mpr ⟨by k_mem, (List.forall_mem_cons.mpr ⟨by k_mem, (fun q hq => by repeat (first | exact hq | refine List.Mem.tail _ ?_))⟩)⟩)⟩)⟩)) ?_; (rename (@Ne Nat _ _ ∧ _) => ho); exact ho.2)
    | trace_state
section PartSl
section
variable {prog : Program} {w : World} {A : Around} {E : Value → Shared → Prop} {s : Shared}
theorem setItem_slice_all {l sl D : Addr} {items new : Array Value} {e e2 : Nat} {Q : Unit → Shared → Prop} (hl : s.heap.get? l = some (W.listOf items e)) (hD : s.heap.get? D = some (W.listOf new e2))
    (hs : s.heap.IsSliceOf sl .none .none .none) (hne : l ≠ D) (hsz : items.size + new.size ≤ sizeLine)
    (hQ : ∀ h' e', h'.get? l = some (W.listOf new e') → Heap.SameBut l s.heap h' → Q () { s with heap := h' }) : wpAny (model prog w) A (setItem (.ref l) (.ref sl) (.ref D)) Q E s := by
  have hL : s.heap.IsList l items := ⟨_, hl, rfl, _, rfl⟩
  have hDL : s.heap.IsList D new := ⟨_, hD, rfl, _, rfl⟩
  obtain ⟨os, hos, hcs, hds⟩ := id hs
  have hTs : s.TypeIs (.ref sl) "slice" := ⟨os, hos, hcs⟩
  unfold setItem
  try with_reducible refine wpAny_holding ?_
  first | refine wpAny_bind (wpAny_pure ?_) | skip
  refine wpAny_bind (wpAny_sequenceKey hL.typeIs (by decide) ?_)
  refine wpAny_bind (wpAny_callSpecial?_slot (name := Str.ofString "__setitem__") hL.typeIs slot_list_setitem
    (wpAny_call_entry slot_list_setitem hL.typeIs entry_list_setitem ?_ (args_list_setitem _ _ _)))
  show wpAny _ _ (Builtin.List.listSubscript? (.ref sl) >>= _) _ _ s
  refine wpAny_bind ?_
  unfold Builtin.List.listSubscript?
  refine wpAny_bind (wpAny_specialOf hTs slice_no_index ?_)
  simp only [Option.isNone_none, if_true]
  refine wpAny_pure ?_
  show wpAny _ _ (typeOf (.ref sl) >>= _) _ _ s
  refine wpAny_bind (wpAny_typeOf hTs ?_)
  rw [if_neg (by decide)]
  rw [listSliceParts_eq]
  refine wpAny_bind (wpAny_bind (wpAny_field hos hds (x := Value.none) rfl (wpAny_bind (wpAny_listPart .none ?_))))
  rw [if_neg (show ¬ ((rawPart none == rawInt 0) = true) from Bool.false_ne_true)]
  refine wpAny_bind (wpAny_field hos hds (x := Value.none) rfl (wpAny_bind (wpAny_listPart .none ?_)))
  refine wpAny_bind (wpAny_field hos hds (x := Value.none) rfl (wpAny_bind (wpAny_listPart .none (wpAny_pure ?_))))
  have hsame : Builtin.List.listSameRef (.ref l) (.ref D) = false := by
    show (l == D) = false
    exact beq_eq_false_iff_ne.mpr hne
  dsimp only
  rw [hsame]
  simp only [Bool.false_eq_true, if_false]
  refine wpAny_bind (m := Builtin.List.listAllItems (.ref D) _) ?_
  unfold Builtin.List.listAllItems
  refine wpAny_bind (wpAny_typeOf hDL.typeIs ?_)
  rw [if_pos (by decide)]
  refine wpAny_listItems hD rfl ?_
  refine wpAny_bind (wpAny_listItems hl rfl ?_)
  refine wpAny_bind (wpAny_of_eq (sliceIndices_raw none none none items.size (by simp)) ?_)
  show wpAny _ _ (if ((1 : Int) == 1) = true then _ else _) _ _ _
  rw [if_pos (by decide)]
  refine wpAny_bind (wpAny_rule ?_)
  rw [if_neg (by
    show ¬ (decide (items.size + new.size > sizeLine) = true)
    simp; omega)]
  have e0 : items.extract 0 (0 : Int).toNat ++ new ++ items.extract (max (0 : Int) (items.size : Int)).toNat items.size = new := by
    have : (max (0 : Int) (items.size : Int)).toNat = items.size := by omega
    rw [this]; simp
  refine wpAny_bind (m := Builtin.List.listUpdate (.ref l) _) ?_
  refine wpAny_updateSeq hl rfl ?_ (by omega) (by
    (try dsimp only)
    first
    | (rw [show (sliceBounds none none none items.size).1 = 0 from rfl, show (sliceBounds none none none items.size).2.1 = (items.size : Int) from rfl, e0]; omega)
    | (show (items.extract 0 (0 : Int).toNat ++ new ++ items.extract (max (0 : Int) (items.size : Int)).toNat items.size).size ≤ sizeLine + 1; rw [e0]; omega))
  refine wpAny_bind (wpAny_letGo ?_)
  refine wpAny_pure ⟨.none, rfl, wpAny_pure (hQ _ (if new.size == items.size then e else e + 1) ?_ (Heap.SameBut.update ..))⟩
  rw [Heap.get?_update_self _ hl rfl]
  show some ({ cls := .type "list", data := .seq (items.extract 0 (0 : Int).toNat ++ new ++ items.extract (max (0 : Int) (items.size : Int)).toNat items.size) (if (items.extract 0 (0 : Int).toNat ++ new ++ items.extract (max (0 : Int) (items.size : Int)).toNat items.size).size == items.size then e else e + 1) } : Obj) = _
  rw [e0]
theorem setSlice_K {h₀ h : Heap} {L l D : Addr} {m : Str → Option Value} {news : List (Addr × Obj)} {g : Obj → List (Addr × Obj)} {items new : Array Value} {e e2 : Nat} {gn : Array GenState} {dr : Drawn} {tk : Nat} {os : OsState} {Q : Unit → Shared → Prop}
    (F : Fr h₀ L h m) (N : News h₀ L h news) (U : UpdF l (W.listOf items e) news g) (hD : (D, W.listOf new e2) ∈ news) (hne : @Ne Nat l D) (hsz : items.size + new.size ≤ sizeLine)
    (k : ∀ h' e', Fr h₀ L h' m → News h₀ L h' (g (W.listOf new e')) → Q () ⟨h', gn, dr, tk, os⟩) :
    wpAny (model prog w) A (setItem (.ref l) (.ref h.objs.size) (.ref D)) Q E ⟨h.push { cls := .type "slice", data := .fields #[.none, .none, .none] }, gn, dr, tk, os⟩ := by
  obtain ⟨pre, post, rfl, hg, h1, h2⟩ := U.split
  have up : ∀ b o, h.get? b = some o → (h.push { cls := .type "slice", data := .fields #[.none, .none, .none] }).get? b = some o := fun b o q => Heap.get?_push_of_some _ q
  have hm := N (l, W.listOf items e) (List.mem_append_right _ (.head _))
  have F1 := F.keeps up
  have N1 := N.grown up
  refine setItem_slice_all (up _ _ hm.1) (up _ _ (N _ hD).1) (Heap.IsSliceOf.new h _ _ _) hne hsz fun h' e' he' hs' => ?_
  refine k h' e' ?_ ?_
  · exact F1.change hs' hm.2.1 hm.2.2
  · rw [hg]
    exact N1.setAt h1 h2 hs' he'
end
theorem sz_del {hs : List Hd} {f : Hd → Bool} {g : Hd → Value} (h : hs.length < 1000) : (hdRefs hs).toArray.size + ((hs.filter f).map g).toArray.size ≤ sizeLine := by
  have := List.length_filter_le f hs
  rw [sizeLine_eq]
  simp only [hdRefs, List.size_toArray, List.length_map]
  omega
end PartSl
section PartC8
section
local macro_rules | `(tactic| walk_at "CompSrcT") => `(tactic| (k_here; k_dflt (refine LCt.CompSrcT.ledger (by rfl) (by k_asm) (by k_asm) (by k_mem) (by (rw [sizeLine_eq]; simp only [hdRefs, List.size_toArray, List.length_map]; omega)) ?_); intro g9; k_dflt (refine comp_del (by assumption) ?_ ?_ ?_); (exact Or.inr ⟨_, by k_mem, rfl, _, rfl⟩); (intro hd9 hm9; have hq9 := hd_mem (by assumption) hm9; have hk9 := (by assumption : HdOk _) _ hm9; have hk8 := And.left hk9; unfold HdTurn; intro I9 oI9 C9 oC9 D9 ys9 m9 hp9 tk9 E9 R1 R2 hC9 hx9 F9 N9 off9 hR1 hR2)))
local macro_rules | `(tactic| walk_at "setItem ref ref") => `(tactic| (k_here; k_dflt (refine' setSlice_K ?F ?N ?U ?D ?ne ?sz ?_; (case F => k_asm); (case N => k_asm); (case D => k_mem); (case U => k_updF); (case ne => omega); (case sz => exact sz_del (by assumption))); intro h' e' F' N'; (try dsimp only at N'); (try k_sweep)))
theorem c_del {w : World} {p : Program} {loose : List Str} {mean : ExcName → Option Value} {mg mb : Str → Option Value}
  {k : Nat} {up : Bool} {t1 kt : Tok} {tb td lst : Addr} {hs : List Hd} {e : Nat} {rest : List (Addr × Obj)}
  {dp un : Nat} {gd : Option (List Code)} {cn : Str} {cs : Scope} {a : Addr} {ccd : Value} {cl : List (Str × Addr)} {outer : List Env} {A₀ : Around} {base h₀ : Heap} {L : Addr} {m : Str → Option Value} {s : Shared} {Q E : Value → Shared → Prop}
  (B : Below A₀ base outer h₀) (F : Fr h₀ L s.heap m) (X : (hd.heap_39 w.params).In h₀) (N : News h₀ L s.heap ((tb, instObj 239 td) :: (td, dictOf [{ hash := PyData.keyHash w.params (Str.ofString "_headers"), key := .str (Str.ofString "_headers") kt, val := .ref lst }] 1) :: (lst, W.listOf (hdRefs hs).toArray e) :: rest)) (T : Top p loose mean mg mb h₀) (hk : cs.kind = .function)
  (hk5 : k < 5) (hok : HdOk hs) (hsub : ∀ q ∈ hdNews hs, q ∈ rest) (hsz : hs.length < 1000) (h1 : @Ne Nat tb lst) (h2 : @Ne Nat td lst) (hr : ∀ p ∈ rest, p.1 ≠ lst) (hd : dp + 10 < recursionLimit) (hu : un + 100 < cLine)
  (hret : ∀ (e' : Nat) (h' : Heap) (tk' : Nat), Fr h₀ L h' m → News h₀ L h' ((tb, instObj 239 td) :: (td, dictOf [{ hash := PyData.keyHash w.params (Str.ofString "_headers"), key := .str (Str.ofString "_headers") kt, val := .ref lst }] 1) :: (lst, W.listOf (hdRefs (hs.filter fun h => !(h.k == k))).toArray e') :: rest) → Q .none { s with heap := h', toks := tk' }) :
  wpAny (model Challenge.rw_ny0343_01.row.prog w) (ktrTop dp un gd cn cs L a ccd cl outer) (call (.ref 159) [.ref tb, .str (nmOf k up) t1]) Q E s := by
  revert X
  w_top off
  k_fill
  intro X
  refine wpAny_call ?_
  k_dflt (refine' code_defC ?k1 ?k2 ?k3 ?k4 ?k5 ?kA ?kF ?kK ?k6 ?k7 ?k8 ?k9 ?kB ?kD ?_ ?c2 ?c3 ?c4; (case kA => exact rfl); (case kF => exact rfl); (case kK => assumption); (case k1 => k_asm); (case k2 => k_asm); (case k3 => k_asm); (case k4 => k_asm); (case k5 => k_asm); (case k6 => k_is); (case k7 => k_is); (case k8 => ktr_room); (case k9 => exact BindsTo.of_eq rfl); (case kB => exact rfl); (case kD => decide +kernel); (case c2 => exact rfl); (case c3 => exact rfl); (case c4 => exact rfl); k_whole; intro g' L' h' tk' cells' FG' F' N' Y' B' X' T' l1; (try k_lt l1);  k_cells Y'; (try simp only [List.cons_append, List.nil_append] at N'); (try dsimp only); (try k_fold))
  k_steps
  all_goals first
    | (rename_i hR1 hR2 cE t9 k9 ha; exact hR1 (by rw [bne, letter_beq] at ha; exact ha) _)
    | (rename_i hR1 hR2 cE t9 k9 ha; exact hR2 (by rw [bne, letter_beq] at ha; exact ha) _)
    | (refine hret _ _ _ (by k_asm) (cb_drop (by k_asm) (List.forall_mem_cons.mpr ⟨by k_mem, (List.forall_mem_cons.mpr ⟨by k_mem, (List.forall_mem_cons.mpr ⟨by k_mem, (fun q hq => by repeat (first | exact hq | refine List.Mem.tail _ ?_))⟩)⟩)⟩)))
    | trace_state
end
end PartC8
end C7C8
section PartPop
section
variable {prog : Program} {w : World} {A : Around} {E : Value → Shared → Prop} {s : Shared}
theorem noBool_set : typeLookup (.type "set") "__bool__" = pure none := by rw [typeLookup_type, builtinLookup_eq_fast]; kernel_rfl
theorem truthy_setObj {d : Addr} {o : Obj} {S : Int → Bool} {n : Nat} {Q : Bool → Shared → Prop} (ho : s.heap.get? d = some o) (hs : o.SetObjOf (intKind prog w) S n) (hn : n < 1000)
    (h : Q (decide (n ≠ 0)) { s with toks := s.toks + 1 + 1 }) : wpAny (model prog w) A (truthy (.ref d)) Q E s := by
  obtain ⟨hex, es, ep, t, hd, hel, hmem, hsz, hf⟩ := hs
  have hT : s.TypeIs (.ref d) "set" := ⟨o, ho, hex.1⟩
  have hne : ((es.size : Int) != 0) = decide (n ≠ 0) := by
    rw [← hsz]
    by_cases h0 : es.size = 0
    · simp [h0]
    · have : ((es.size : Int) != 0) = true := bne_iff_ne.mpr (by omega)
      rw [this]; simp [h0]
  have key : wpAny (model prog w) A (runValue (.builtin "len" ⟨[.ref d], []⟩)) (fun r s' => r = .int es.size (s.toks + 1) ∧ Q (decide (n ≠ 0)) s') E s := by
    refine wpAny_runValue (codeAny_builtin entry_len ?_)
    rw [Around.under_plainId plain_len _]
    exact wpAny_mono (wpAny_len_body_set (Q := fun r s' => r = .int es.size (s.toks + 1) ∧ Q (decide (n ≠ 0)) s') ho hex hd hf (by omega) ⟨rfl, h⟩)
      (fun fin s' h' => by obtain ⟨r, rfl, hq⟩ := h'; exact hq) fun _ _ e => e
  unfold truthy
  first
    | refine wpAny_bind (wpAny_callSpecial?_none (name := Str.ofString "__bool__") hT noBool_set ?_)
    | refine wpAny_bind (wpAny_pure (wpAny_bind (wpAny_callSpecial?_none (name := Str.ofString "__bool__") hT noBool_set ?_)))
  first
    | refine wpAny_bind (wpAny_specialOf (name := Str.ofString "__len__") hT F.slot_set_len.lookup ?_)
    | refine wpAny_bind (wpAny_pure (wpAny_bind (wpAny_specialOf (name := Str.ofString "__len__") hT F.slot_set_len.lookup ?_)))
  first
    | exact wpAny_bind (wpAny_mono key (fun r s' h' => by obtain ⟨rfl, hq⟩ := h'; exact wpAny_pure (hne ▸ hq)) fun _ _ e => e)
    | exact wpAny_bind (wpAny_pure (wpAny_bind (wpAny_mono key (fun r s' h' => by obtain ⟨rfl, hq⟩ := h'; exact wpAny_pure (hne ▸ hq)) fun _ _ e => e)))
theorem wpAny_choose1 {M : Model} {n : Nat} {Q : Nat → Shared → Prop} (hn : n = 1) (h : Q 0 { s with drawn := s.drawn.bump .order }) : wpAny M A (choose .order n) Q E s := by
  subst hn
  intro Γ p hΓ
  unfold choose
  rw [Sem.wp_choose]
  refine ⟨by decide, ?_⟩
  rw [Nat.mod_one]
  exact h
theorem popPlace_one {t : SetTable} (h : t.place.size = 1) : t.popPlace = some 0 := by
  unfold SetTable.popPlace
  have : t.place.isEmpty = false := by
    rw [Array.isEmpty_eq_false_iff]; intro q; rw [q] at h; simp at h
  rw [this]
  simp only [Bool.false_eq_true, if_false]
  split
  · rename_i q; rw [h] at q; congr 1; omega
  · rfl
theorem insertAt_size {α : Type} (xs : Array α) (p : Nat) (x : α) : (SetTable.insertAt xs p x).size = xs.size + 1 := by
  unfold SetTable.insertAt
  simp
  omega
theorem popped_fits {t : SetTable} (h : t.fits 1 = true) : (t.popped 0).fits 0 = true := by
  unfold SetTable.fits at h ⊢
  rw [Bool.and_eq_true] at h
  obtain ⟨h1, h2⟩ := h
  have h1 : t.place.size = 1 := by simpa using h1
  have h2 : t.fill ≤ t.mask := by simpa using h2
  unfold SetTable.popped SetTable.drop
  have : t.place[0]? = some (t.place[0]'(by omega)) := Array.getElem?_eq_getElem (by omega)
  rw [this]
  unfold SetTable.fill at h2 ⊢
  simp only [insertAt_size, SetTable.eraseAt]
  simp
  omega
theorem pop_one {d : Addr} {o : Obj} {S : Int → Bool} {x : Int} {Q : Value → Shared → Prop} (ho : s.heap.get? d = some o) (hs : o.SetObjOf (intKind prog w) S (0 + 1)) (hS : S x = true)
    (k : ∀ h' o' t dr, h'.get? d = some o' → Heap.SameBut d s.heap h' → o'.SetObjOf (intKind prog w) (fun _ => false) 0 → Q (.int x t) { s with heap := h', drawn := dr }) :
    wpAny (model prog w) A (call (.builtin "set.pop") [.ref d]) Q E s := by
  obtain ⟨hex, es, ep, t, hd, hel, hmem, hsz, hf⟩ := hs
  have hT : s.TypeIs (.ref d) "set" := ⟨o, ho, hex.1⟩
  obtain ⟨e, he, hi⟩ := (hmem x).mp hS
  have hes : es.toList = [e] := by
    have hl : es.toList.length = 1 := by simpa using hsz
    match hq : es.toList, hl with
    | [a], _ => rw [hq] at he; rw [List.mem_singleton.mp he]
  have he0 : es[0]? = some e := by rw [← Array.getElem?_toList, hes]; rfl
  obtain ⟨tk, hv⟩ := Value.isInt_shape hi
  have hp : t.place.size = 1 := by
    unfold SetTable.fits at hf
    rw [Bool.and_eq_true] at hf
    have := hf.1
    rw [hsz] at this
    simpa using this
  have hf' := popped_fits (t := t) (by rw [hsz] at hf; exact hf)
  have hera : SetTable.eraseAt es 0 = #[] := by
    unfold SetTable.eraseAt
    apply Array.ext'
    simp
    omega
  have hfree : (s.heap.update d (Obj.putSet (SetTable.eraseAt es 0) (t.popped 0))).get? d = some { o with data := .set #[] (ep + 1) (t.popped 0) } := by
    have := Heap.get?_update_self (Obj.putSet (SetTable.eraseAt es 0) (t.popped 0)) ho (by rw [putSet_of _ _ hd]; rfl)
    rw [putSet_of _ _ hd, hera] at this
    rw [hera]; exact this
  have hnew : Obj.SetObjOf (intKind prog w) { o with data := .set #[] (ep + 1) (t.popped 0) } (fun _ => false) 0 :=
    ⟨hex, #[], ep + 1, _, rfl, fun e he => by simp at he, fun k => by simp, rfl, hf'⟩
  refine wpAny_call_entry F.slot_set_pop hT F.entry_set_pop ?_ (F.args_set_pop_1 _)
  unfold Builtin.«set.pop»
  refine wpAny_bind (m := Builtin.Frozenset.noArgs "pop" _) (wpAny_pure ?_)
  refine wpAny_bind (m := setPop d) ?_
  unfold setPop
  refine wpAny_bind (wpAny_setState_of ho hd hf ?_)
  dsimp only
  rw [popPlace_one hp]
  dsimp only
  have rest : ∀ dr, wpAny (model prog w) A.in1 (do
      let some (_, x) := es[0]? | unsupported "internal:set.pop"
      storeSet d (SetTable.eraseAt es 0) (t.popped 0)
      pure (some x)) (fun r s' => wpAny (model prog w) A.in1 (do
        let some x := r | rule "set.pop.empty"; raiseError "KeyError" "pop from an empty set"
        ret x) (fun fin s' => ∃ v, fin = .done (.ret v) ∧ Q v s') E s') E { s with drawn := dr } := by
    intro dr
    rw [he0]
    dsimp only
    refine wpAny_bind (wpAny_storeSet_of (s := { s with drawn := dr }) ho hd ?_ (by rw [hera]; exact Nat.zero_le _))
    refine wpAny_pure (wpAny_pure ⟨_, rfl, ?_⟩)
    obtain ⟨eh, ev⟩ := e
    dsimp only at hv ⊢
    subst hv
    exact k _ _ tk dr hfree (Heap.SameBut.update ..) hnew
  refine wpAny_bind ?_
  refine wpAny_bind (m := ask) (wpAny_askSetting ?_)
  refine wpAny_pure ?_
  refine wpAny_ite ?_
  split
  · refine wpAny_bind (wpAny_choose1 hsz ?_)
    exact rest _
  · refine wpAny_bind (m := _) (Q := _) ?_
    refine wpAny_of_eq (a := ()) ?_ ?_
    · show (if (!t.led && decide (es.size > 1)) = true then unsupported "set:maker-not-led" else pure ()) = pure ()
      rw [if_neg (by rw [hsz]; simp)]
    · exact rest s.drawn
theorem pop_K {h₀ : Heap} {L d : Addr} {m : Str → Option Value} {news : List (Addr × Obj)} {g : Obj → List (Addr × Obj)} {o : Obj} {S : Int → Bool} {x : Int} {Q : Value → Shared → Prop}
    (F : Fr h₀ L s.heap m) (N : News h₀ L s.heap news) (U : UpdF d o news g) (hs : o.SetObjOf (intKind prog w) S (0 + 1)) (hS : S x = true)
    (k : ∀ h' o' t dr, Fr h₀ L h' m → News h₀ L h' (g o') → o'.SetObjOf (intKind prog w) (fun _ => false) 0 → Q (.int x t) { s with heap := h', drawn := dr }) :
    wpAny (model prog w) A (call (.builtin "set.pop") [.ref d]) Q E s := by
  obtain ⟨pre, post, rfl, hg, h1, h2⟩ := U.split
  have hm := N (d, o) (List.mem_append_right _ (.head _))
  refine pop_one hm.1 hs hS fun h' o' t dr ho' hsb hs' => k h' o' t dr (F.change hsb hm.2.1 hm.2.2) ?_ hs'
  rw [hg]
  exact N.setAt h1 h2 hsb ho'
theorem pop_K1 {h₀ : Heap} {L d : Addr} {m : Str → Option Value} {news : List (Addr × Obj)} {g : Obj → List (Addr × Obj)} {o : Obj} {x : Int} {Q : Value → Shared → Prop}
    (F : Fr h₀ L s.heap m) (N : News h₀ L s.heap news) (U : UpdF d o news g) (hs : o.SetObjOf (intKind prog w) (fun k' => false || decide (k' = x)) (0 + 1))
    (k : ∀ h' o' t dr, Fr h₀ L h' m → News h₀ L h' (g o') → o'.SetObjOf (intKind prog w) (fun _ => false) 0 → Q (.int x t) { s with heap := h', drawn := dr }) :
    wpAny (model prog w) A (call (.builtin "set.pop") [.ref d]) Q E s := pop_K F N U hs (by simp) k
theorem getMethod_pop {d : Addr} {o : Obj} {S : Int → Bool} {n : Nat} {pl : Sem Bool} {Q : Value × List Value → Shared → Prop} (ho : s.heap.get? d = some o) (hs : o.SetObjOf (intKind prog w) S n)
    (h : Q (.builtin "set.pop", [.ref d]) s) : wpAny (model prog w) A (getMethod (.ref d) (Str.ofString "pop") pl) Q E s :=
  getMethod_builtin ⟨o, ho, hs.1.1⟩ F.plainAttrs_set F.slot_set_pop F.type_set_pop (fun _ e => by cases e; exact ⟨o, ho, hs.1.2.1⟩) h
end
theorem lt_neL {d d' : Nat} {l : List (Addr × Obj)} (h : ∀ q ∈ l, q.1 < d') (hl : d' ≤ d) : ∀ q ∈ l, q.1 ≠ d := fun q hq =>
  Nat.ne_of_lt (Nat.lt_of_lt_of_le (h q hq) hl)
end PartPop
section PartC9
section
local macro_rules | `(tactic| k_all) => `(tactic| (refine lt_neL (by assumption) ?_; (try dsimp only); omega))
local macro_rules | `(tactic| walk_at "truthy ref") => `(tactic| (k_here; k_dflt (refine truthy_setObj (News.get (by k_asm) (by k_mem)) (by assumption) (by decide) ?_); (try dsimp only)))
local macro_rules | `(tactic| walk_at "getMethod ref") => `(tactic| (k_here; (with_reducible show wpAny _ _ (getMethod (Value.ref _) (PySem.Str.ofString "pop") _) _ _ _); k_dflt (refine getMethod_pop (News.get (by k_asm) (by k_mem)) (by assumption) ?_)))
local macro_rules | `(tactic| walk_at "call builtin:set.pop") => `(tactic| (k_here; k_dflt (refine' pop_K1 ?F ?N ?U ?S ?_; (case F => k_asm); (case N => k_asm); (case U => k_updF); (case S => assumption)); intro h' o' t' dr' F' N' hs'; (try dsimp only at N'); (try k_sweep)))
theorem c_powers {w : World} {p : Program} {loose : List Str} {mean : ExcName → Option Value} {mg mb : Str → Option Value}
  {x : Int} {tx tb tm : Tok} {news : List (Addr × Obj)}
  {dp un : Nat} {gd : Option (List Code)} {cn : Str} {cs : Scope} {a : Addr} {ccd : Value} {cl : List (Str × Addr)} {outer : List Env} {A₀ : Around} {base h₀ : Heap} {L : Addr} {m : Str → Option Value} {s : Shared} {Q E : Value → Shared → Prop}
  (B : Below A₀ base outer h₀) (F : Fr h₀ L s.heap m) (X : (hd.heap_39 w.params).In h₀) (N : News h₀ L s.heap news) (T : Top p loose mean mg mb h₀) (hk : cs.kind = .function)
  (hx0 : 0 ≤ x) (hx1 : x ≤ 10) (hd : dp + 10 < recursionLimit) (hu : un + 100 < cLine)
  (hret : ∀ (t : Addr) (o : Obj) (h' : Heap) (tk' : Nat) (dr' : Drawn), Fr h₀ L h' m → News h₀ L h' ((t, o) :: news) → (∀ p ∈ news, p.1 < t) → Q (.ref t) { s with heap := h', drawn := dr', toks := tk' }) :
  wpAny (model Challenge.rw_ny0343_01.row.prog w) (ktrTop dp un gd cn cs L a ccd cl outer) (call (.ref 46) [.int x tx, .int 5 tb, .int 2048 tm]) Q E s := by
  revert X
  w_top off
  k_fill
  intro X
  refine wpAny_call ?_
  k_dflt (refine' code_def ?k1 ?k2 ?k3 ?k4 ?k5 ?kA ?kF ?kK ?k6 ?k7 ?k8 ?k9 ?kB ?_ ?c2 ?c3 ?c4 ?c5; (case kA => exact rfl); (case kF => exact rfl); (case kK => assumption); (case k1 => k_asm); (case k2 => k_asm); (case k3 => k_asm); (case k4 => k_asm); (case k5 => k_asm); (case k6 => k_is); (case k7 => k_is); (case k8 => ktr_room); (case k9 => first | exact BindsTo.of_eq rfl | exact binds_K (by k_in) rfl (by k_is) rfl rfl rfl); (case c5 => decide); (case kB => exact locs rfl); (case c2 => exact rfl); (case c3 => exact rfl); (case c4 => exact rfl); k_whole; intro g' L' h' FG' F' N' B' X' T'; (try dsimp only); (try k_lift B'); (try k_fold))
  k_steps
  all_goals first
    | (refine hret _ _ _ _ _ (by k_asm) (cb_drop (by k_asm) (List.forall_mem_cons.mpr ⟨by k_mem, (fun q hq => by repeat (first | exact hq | refine List.Mem.tail _ ?_))⟩)) ?_
       intro q hq
       have hlt := ltN ((by assumption : ∀ p ∈ news, p.1 < _) q hq)
       refine ltN ?_
       omega)
    | trace_state
end
end PartC9
section PartC10
theorem num_len {n : Nat} (h : n ∈ worthList) : (num n).length ≤ 3 := safe_len _ (num_safe h)
theorem slice_num {n : Nat} (h : n ∈ worthList) : Txt.slice (num n) (some 0) (some ((num n).length : Int)) = num n := by
  have : ∀ n ∈ worthList, Txt.slice (num n) (some 0) (some ((num n).length : Int)) = num n := by decide +kernel
  exact this n h
theorem worth_lt {n : Nat} (h : n ∈ worthList) : n < 1000 := by
  have : ∀ n ∈ worthList, n < 1000 := by decide +kernel
  exact this n h
theorem int_num {prog : Program} {w : World} {A : Around} {E : Value → Shared → Prop} {s : Shared} {Q : Value → Shared → Prop} {n : Nat} {t : Tok} (hn : n ∈ worthList) (h : Q (.int n s.toks) { s with toks := s.toks + 1 }) :
    wpAny (model prog w) A (call (.type "int") [.str (num n) t]) Q E s := by
  have := worth_lt hn
  exact PySem.W.KIN.call_num (n := (n : Int)) (by omega) (by omega) h
section
local macro_rules | `(tactic| walk_at "call ref") => `(tactic| (k_here; (with_reducible show wpAny _ _ (call (Value.ref 46) _) _ _ _); k_dflt (refine' c_powers ?B ?F ?X ?N ?T ?hk ?h1 ?h2 ?hd ?hu ?_; (case B => k_asm); (case F => k_asm); (case X => k_asm); (case T => k_asm); (case hk => exact rfl); (case N => k_asm); (case h1 => omega); (case h2 => omega); (case hd => ktr_room); (case hu => ktr_units)); intro t9 o9 h9 tk9 dr9 F9 N9 l9; (try dsimp only); (try k_lt l9); (try k_sweep)))
local macro_rules | `(tactic| walk_at "call type:int") => `(tactic| (k_here; (with_reducible show wpAny _ _ (call (Value.type "int") [Value.str (Txt.slice _ _ _) _]) _ _ _); rw [slice_num (by assumption)]; k_dflt (refine int_num (by assumption) ?_)))
theorem c_inner {w : World} {p : Program} {loose : List Str} {mean : ExcName → Option Value} {mg mb : Str → Option Value}
  {n : Nat} {ts : Tok} {oP : Obj} {tS tail : List (Addr × Obj)}
  {dp un : Nat} {gd : Option (List Code)} {cn : Str} {cs : Scope} {a : Addr} {ccd : Value} {cl : List (Str × Addr)} {outer : List Env} {A₀ : Around} {base h₀ : Heap} {L : Addr} {m : Str → Option Value} {s : Shared} {Q E : Value → Shared → Prop}
  (B : Below A₀ base outer h₀) (F : Fr h₀ L s.heap m) (X : (hd.heap_39 w.params).In h₀) (N : News h₀ L s.heap ((48, oP) :: tail)) (T : Top p loose mean mg mb h₀) (hk : cs.kind = .function)
  (hn : n ∈ worthList) (C48 : CodeHd base 52 48) (hS : TabSt 48 50 4 (Str.ofString "_str_to_int_inner.<locals>.inner") oP tS) (hsub : ∀ q ∈ tS, q ∈ tail) (hr48 : ∀ p ∈ tail, p.1 ≠ 48) (hd : dp + 20 < recursionLimit) (hu : un + 160 < cLine)
  (hret : ∀ (v : Int) (tv : Tok) (c' : Addr) (oc : Obj) (vs' : Array Value) (t : Tok) (h' : Heap) (tk' : Nat) (dr' : Drawn), Fr h₀ L h' m → News h₀ L h' ((48, tabObj #[rawInt 50, rawInt 4, .ref c']) :: (c', oc) :: tail) → v = n → oc.data = .fields vs' → vs'[1]? = some (.str (Str.ofString "_str_to_int_inner.<locals>.inner") t) → @Ne Nat c' 48 → ((c', oc) ∈ tS ∨ AllLt c' tail) → Q (.int v tv) { s with heap := h', drawn := dr', toks := tk' }) :
  wpAny (model Challenge.rw_ny0343_01.row.prog w) (ktrTop dp un gd cn cs L a ccd cl outer) (call (.ref 53) [.str (num n) ts]) Q E s := by
  revert X
  w_top off
  k_fill
  intro X
  have hlen := num_len hn
  refine wpAny_call ?_
  k_dflt (refine' code_defC ?k1 ?k2 ?k3 ?k4 ?k5 ?kA ?kF ?kK ?k6 ?k7 ?k8 ?k9 ?kB ?kD ?_ ?c2 ?c3 ?c4; (case kA => exact rfl); (case kF => exact rfl); (case kK => assumption); (case k1 => k_asm); (case k2 => k_asm); (case k3 => k_asm); (case k4 => k_asm); (case k5 => k_asm); (case k6 => k_is); (case k7 => k_is); (case k8 => ktr_room); (case k9 => exact BindsTo.of_eq rfl); (case kB => exact rfl); (case kD => decide +kernel); (case c2 => exact rfl); (case c3 => exact rfl); (case c4 => exact rfl); k_whole; intro g' L' h' tk' cells' FG' F' N' Y' B' X' T' l1; (try k_lt l1); (obtain ⟨l48, lrest⟩ := l1); k_cells Y'; (try simp only [List.cons_append, List.nil_append] at N'); (try dsimp only); (try k_fold))
  k_steps
  all_goals first
    | (refine hret _ _ _ _ _ _ _ _ _ (by k_asm) (cb_drop (by k_asm) (List.forall_mem_cons.mpr ⟨by k_mem, List.forall_mem_cons.mpr ⟨by k_mem, (fun q hq => by repeat (first | exact hq | refine List.Mem.tail _ ?_))⟩⟩)) rfl (by assumption) (by assumption) (by assumption) (by first | (rename ((_ ∈ _ ∧ @LT.lt Nat _ _ _) ∨ _) => hl4; exact Or.imp And.left (fun h => by repeat (first | exact h | replace h := And.right h)) hl4)))
    | trace_state
end
end PartC10
section PartC11
theorem rstrip_num {n : Nat} (h : n ∈ worthList) : Txt.rstrip (num n) = num n := by
  have : ∀ n ∈ worthList, Txt.rstrip (num n) = num n := by decide +kernel
  exact this n h
theorem occ_num {n : Nat} (h : n ∈ worthList) : (Builtin.Str.occurrences (num n) (Str.ofString "_") 0 (num n).length ((num n).length + 1)).isEmpty = true := by
  have : ∀ n ∈ worthList, (Builtin.Str.occurrences (num n) (Str.ofString "_") 0 (num n).length ((num n).length + 1)).isEmpty = true := by decide +kernel
  exact this n h
section
variable {prog : Program} {w : World} {A : Around} {E : Value → Shared → Prop} {s : Shared} {Q : Value → Shared → Prop} {n : Nat} {t u v : Tok}
theorem rstrip_numK (hn : n ∈ worthList) (h : ∀ t' k, Q (.str (num n) t') { s with toks := k }) : wpAny (model prog w) A (call (.builtin "str.rstrip") [.str (num n) t]) Q E s := by
  have := num_len hn
  exact KXw.rstrip (rstrip_num hn) (by rw [sizeLine_eq]; omega) h
theorem replace_numK (hn : n ∈ worthList) (h : Q (.str (num n) t) s) : wpAny (model prog w) A (call (.builtin "str.replace") [.str (num n) t, .str (Str.ofString "_") u, .str (Str.ofString "") v]) Q E s := by
  have e := occ_num hn
  refine call_gives F.slot_str_replace (typeIs_str _ _ _) F.entry_str_replace (F.args_str_replace_3 _ _ _) (gives_str_replace (num n) (Str.ofString "_") (Str.ofString "") t u v (fun h => by rw [e] at h; cases h)) ?_
  rw [e]
  exact h
end
section
local macro_rules | `(tactic| walk_at "call ref") => `(tactic| (k_here; (with_reducible show wpAny _ _ (call (Value.ref 53) _) _ _ _); k_dflt (refine' c_inner ?B ?F ?X ?N ?T ?hk ?hn ?hC ?hS ?hsub ?hr ?hd ?hu ?_; (case B => k_asm); (case F => k_asm); (case X => k_asm); (case T => k_asm); (case hk => exact rfl); (case N => k_asm); (case hn => assumption); (case hC => assumption); (case hS => assumption); (case hsub => assumption); (case hr => assumption); (case hd => ktr_room); (case hu => ktr_units)); intro v9 tv9 c9 oc9 vs9 t9 h9 tk9 dr9 F9 N9 y9 a1 a2 a3 a4; (try dsimp only); (try k_sweep)))
local macro_rules | `(tactic| walk_at "call builtin:str.rstrip") => `(tactic| (k_here; (with_reducible show wpAny _ _ (call (Value.builtin "str.rstrip") [Value.str (num _) _]) _ _ _); k_dflt (refine rstrip_numK (by assumption) ?_); intro _ _; (try dsimp only)))
local macro_rules | `(tactic| walk_at "call builtin:str.replace") => `(tactic| (k_here; (with_reducible show wpAny _ _ (call (Value.builtin "str.replace") [Value.str (num _) _, _, _]) _ _ _); k_dflt (refine replace_numK (by assumption) ?_)))
theorem c_ifs {w : World} {p : Program} {loose : List Str} {mean : ExcName → Option Value} {mg mb : Str → Option Value}
  {n : Nat} {ts : Tok} {oP : Obj} {tS tail : List (Addr × Obj)}
  {dp un : Nat} {gd : Option (List Code)} {cn : Str} {cs : Scope} {a : Addr} {ccd : Value} {cl : List (Str × Addr)} {outer : List Env} {A₀ : Around} {base h₀ : Heap} {L : Addr} {m : Str → Option Value} {s : Shared} {Q E : Value → Shared → Prop}
  (B : Below A₀ base outer h₀) (F : Fr h₀ L s.heap m) (X : (hd.heap_39 w.params).In h₀) (N : News h₀ L s.heap ((48, oP) :: tail)) (T : Top p loose mean mg mb h₀) (hk : cs.kind = .function)
  (hn : n ∈ worthList) (C48 : CodeHd base 52 48) (hS : TabSt 48 50 4 (Str.ofString "_str_to_int_inner.<locals>.inner") oP tS) (hsub : ∀ q ∈ tS, q ∈ tail) (hr48 : ∀ p ∈ tail, p.1 ≠ 48) (hd : dp + 30 < recursionLimit) (hu : un + 240 < cLine)
  (hret : ∀ (v : Int) (tv : Tok) (c' : Addr) (oc : Obj) (vs' : Array Value) (t : Tok) (h' : Heap) (tk' : Nat) (dr' : Drawn), Fr h₀ L h' m → News h₀ L h' ((48, tabObj #[rawInt 50, rawInt 4, .ref c']) :: (c', oc) :: tail) → v = n → oc.data = .fields vs' → vs'[1]? = some (.str (Str.ofString "_str_to_int_inner.<locals>.inner") t) → @Ne Nat c' 48 → ((c', oc) ∈ tS ∨ AllLt c' tail) → Q (.int v tv) { s with heap := h', drawn := dr', toks := tk' }) :
  wpAny (model Challenge.rw_ny0343_01.row.prog w) (ktrTop dp un gd cn cs L a ccd cl outer) (call (.ref 60) [.str (num n) ts]) Q E s := by
  revert X
  w_top off
  k_fill
  intro X
  have hlen := num_len hn
  refine wpAny_call ?_
  k_dflt cell_enter
  k_steps
  all_goals first
    | (refine hret _ _ _ _ _ _ _ _ _ (by k_asm) (by k_asm) (by assumption) (by assumption) (by assumption) (by assumption) (by assumption))
    | trace_state
end
end PartC11
section PartW12
/-- the ledger of the carry: tail grows and is owned, keep is frozen; both lie apart from what is written -/
def Ap (tb td lst : Addr) (tail keep : List (Addr × Obj)) : Prop :=
  ((@LT.lt Nat _ 95 tb) ∧ (@LT.lt Nat _ 95 td) ∧ (@LT.lt Nat _ 95 lst) ∧ (@Ne Nat tb lst) ∧ (@Ne Nat td lst)) ∧
  (∀ p ∈ tail, (@Ne Nat p.1 76) ∧ (@Ne Nat p.1 83) ∧ (@Ne Nat p.1 48) ∧ (@Ne Nat p.1 lst)) ∧ (∀ p ∈ keep, (@Ne Nat p.1 76) ∧ (@Ne Nat p.1 83) ∧ (@Ne Nat p.1 48) ∧ (@Ne Nat p.1 lst)) ∧
  ∀ p ∈ tail, ∀ q ∈ keep, @Ne Nat p.1 q.1
/-- the three code tables stand empty or written -/
def TSt (o1 o2 o3 : Obj) (tail : List (Addr × Obj)) : Prop :=
  TabSt 76 90 4 (Str.ofString "_int2digits.<locals>.inner") o1 tail ∧ TabSt 83 105 4 (Str.ofString "_digits2int.<locals>.inner") o2 tail ∧ TabSt 48 50 4 (Str.ofString "_str_to_int_inner.<locals>.inner") o3 tail
theorem Ap.both {tb td lst : Addr} {tail keep : List (Addr × Obj)} (h : Ap tb td lst tail keep) : ∀ p ∈ tail ++ keep, (@Ne Nat p.1 76) ∧ (@Ne Nat p.1 83) ∧ (@Ne Nat p.1 48) ∧ (@Ne Nat p.1 lst) := fun p hp =>
  (List.mem_append.mp hp).elim (h.2.1 p) (h.2.2.1 p)
theorem Ap.tail {tb td lst x : Addr} {o : Obj} {tail keep : List (Addr × Obj)} (h : Ap tb td lst tail keep) (h1 : (@Ne Nat x 76) ∧ (@Ne Nat x 83) ∧ (@Ne Nat x 48) ∧ (@Ne Nat x lst)) (h2 : ∀ q ∈ keep, @Ne Nat x q.1) : Ap tb td lst ((x, o) :: tail) keep :=
  ⟨h.1, fun p hp => by
    rcases List.mem_cons.mp hp with rfl | hp
    · exact h1
    · exact h.2.1 p hp, h.2.2.1, fun p hp => by
    rcases List.mem_cons.mp hp with rfl | hp
    · exact h2
    · exact h.2.2.2 p hp⟩
theorem Ap.keep {tb td lst x : Addr} {o : Obj} {tail keep : List (Addr × Obj)} (h : Ap tb td lst tail keep) (h1 : (@Ne Nat x 76) ∧ (@Ne Nat x 83) ∧ (@Ne Nat x 48) ∧ (@Ne Nat x lst)) (h2 : ∀ q ∈ tail, @Ne Nat q.1 x) : Ap tb td lst tail ((x, o) :: keep) :=
  ⟨h.1, h.2.1, fun p hp => by
    rcases List.mem_cons.mp hp with rfl | hp
    · exact h1
    · exact h.2.2.1 p hp, fun p hp q hq => by
    rcases List.mem_cons.mp hq with rfl | hq
    · exact h2 p hp
    · exact h.2.2.2 p hp q hq⟩
theorem TSt.sub {o1 o2 o3 : Obj} {l l' : List (Addr × Obj)} (h : TSt o1 o2 o3 l) (hs : ∀ p ∈ l, p ∈ l') : TSt o1 o2 o3 l' := ⟨h.1.sub hs, h.2.1.sub hs, h.2.2.sub hs⟩
theorem TSt.cons {o1 o2 o3 : Obj} {q : Addr × Obj} {l : List (Addr × Obj)} (h : TSt o1 o2 o3 l) : TSt o1 o2 o3 (q :: l) := h.sub fun _ hp => List.mem_cons_of_mem _ hp
theorem sub_cons {q : Addr × Obj} {a l : List (Addr × Obj)} (h : ∀ p ∈ a, p ∈ l) : ∀ p ∈ a, p ∈ q :: l := fun p hp => List.mem_cons_of_mem _ (h p hp)
theorem news_sub {h₀ h : Heap} {L : Addr} {l l' : List (Addr × Obj)} (N : News h₀ L h l) (hs : ∀ p ∈ l', p ∈ l) : News h₀ L h l' := fun p hp => N p (hs p hp)
theorem or_step {a b c : Prop} (h1 : a → c) (h2 : b → c) : a ∨ b → c := fun h => h.elim h1 h2
theorem news_dif {h₀ h : Heap} {L x y : Addr} {o o' : Obj} {l : List (Addr × Obj)} (N : News h₀ L h l) (h1 : (x, o) ∈ l) (h2 : (y, o') ∈ l) (hne : o = o' → False) : @Ne Nat x y := fun q => by
  have e1 : h.get? x = some o := (N _ h1).1
  have e2 : h.get? y = some o' := (N _ h2).1
  have q' : x = y := q
  rw [q', e2] at e1
  exact hne (Option.some.inj e1).symm
theorem tabSt_dif {P line col : Nat} {qual q : Str} {oP o : Obj} {t : Tok} {vs : Array Value} {news : List (Addr × Obj)} (h : TabSt P line col qual oP news) (hd : o.data = .fields vs) (hv : vs[1]? = some (.str q t)) : o = oP → False := fun e => by
  subst e
  rcases h with h | ⟨_, _, _, _, h, _⟩ <;> (subst h; cases hd; cases hv)
theorem list_dif {its : Array Value} {e : Nat} {o : Obj} {vs : Array Value} (hd : o.data = .fields vs) : o = W.listOf its e → False := fun e => by subst e; cases hd
theorem tab_dif {a b : Nat} {c : Addr} {q : Str} {o : Obj} {t : Tok} {vs : Array Value} (hd : o.data = .fields vs) (hv : vs[1]? = some (.str q t)) : o = tabObj #[rawInt a, rawInt b, .ref c] → False := fun e => by
  subst e; cases hd; cases hv
theorem d_get {w : World} {p : Program} {loose : List Str} {mean : ExcName → Option Value} {mg mb : Str → Option Value}
  {k : Nat} {up : Bool} {t1 : Tok} {hs : List Hd} {o1 o2 o3 : Obj} {e : Nat} {tail keep : List (Addr × Obj)} {kt : Tok} {tb td lst : Addr}
  {dp un : Nat} {gd : Option (List Code)} {cn : Str} {cs : Scope} {a : Addr} {ccd : Value} {cl : List (Str × Addr)} {outer : List Env} {A₀ : Around} {base h₀ : Heap} {L : Addr} {m : Str → Option Value} {s : Shared} {Q E : Value → Shared → Prop}
  (B : Below A₀ base outer h₀) (F : Fr h₀ L s.heap m) (X : (hd.heap_39 w.params).In h₀) (N : News h₀ L s.heap ((76, o1) :: (83, o2) :: (48, o3) :: (tb, instObj 239 td) :: (td, dictOf [{ hash := PyData.keyHash w.params (Str.ofString "_headers"), key := .str (Str.ofString "_headers") kt, val := .ref lst }] 1) :: (lst, W.listOf (hdRefs hs).toArray e) :: (tail ++ keep))) (T : Top p loose mean mg mb h₀) (hk : cs.kind = .function)
  (hA : Ap tb td lst tail keep) (hk5 : k < 5) (hok : HdOk hs) (hsub : ∀ q ∈ hdNews hs, q ∈ tail) (hsz : hs.length < 1000) (hd : dp + 10 < recursionLimit) (hu : un + 100 < cLine)
  (hret : ∀ (t : Addr) (h' : Heap) (tk' : Nat), Fr h₀ L h' m → News h₀ L h' ((76, o1) :: (83, o2) :: (48, o3) :: (tb, instObj 239 td) :: (td, dictOf [{ hash := PyData.keyHash w.params (Str.ofString "_headers"), key := .str (Str.ofString "_headers") kt, val := .ref lst }] 1) :: (lst, W.listOf (hdRefs hs).toArray e) :: (tail ++ ((t, W.listOf ((hs.filter fun h => h.k == k).map fun h => Value.str (num h.n) h.tv).toArray ((hs.filter fun h => h.k == k).map fun h => Value.str (num h.n) h.tv).length) :: keep))) → Ap tb td lst tail ((t, W.listOf ((hs.filter fun h => h.k == k).map fun h => Value.str (num h.n) h.tv).toArray ((hs.filter fun h => h.k == k).map fun h => Value.str (num h.n) h.tv).length) :: keep) → Q (.ref t) { s with heap := h', toks := tk' }) :
  wpAny (model Challenge.rw_ny0343_01.row.prog w) (ktrTop dp un gd cn cs L a ccd cl outer) (call (.ref 178) [.ref tb, .str (nmOf k up) t1]) Q E s := by
  have hA1 := hA.1
  refine c_get B F X (news_sub N (l' := (tb, instObj 239 td) :: (td, dictOf [{ hash := PyData.keyHash w.params (Str.ofString "_headers"), key := .str (Str.ofString "_headers") kt, val := .ref lst }] 1) :: (lst, W.listOf (hdRefs hs).toArray e) :: (76, o1) :: (83, o2) :: (48, o3) :: (tail ++ keep)) (by walk_at "sub go")) T hk hk5 hok (fun q hq => by first | (walk_at "mem go") | simp [hsub q hq]) hsz hd hu ?_
  intro t h' tk' F' N' off
  have offm := off1_mem off
  refine hret t h' tk' F' (news_sub N' (by walk_at "sub go")) (hA.keep ⟨Ne.symm (offm (76, o1) (by first | (walk_at "mem go") | simp)), Ne.symm (offm (83, o2) (by first | (walk_at "mem go") | simp)), Ne.symm (offm (48, o3) (by first | (walk_at "mem go") | simp)), Ne.symm (offm (lst, W.listOf (hdRefs hs).toArray e) (by first | (walk_at "mem go") | simp))⟩ fun q hq => offm q (by first | (walk_at "mem go") | simp [hq]))
theorem d_del {w : World} {p : Program} {loose : List Str} {mean : ExcName → Option Value} {mg mb : Str → Option Value}
  {k : Nat} {up : Bool} {t1 : Tok} {hs : List Hd} {o1 o2 o3 : Obj} {e : Nat} {tail keep : List (Addr × Obj)} {kt : Tok} {tb td lst : Addr}
  {dp un : Nat} {gd : Option (List Code)} {cn : Str} {cs : Scope} {a : Addr} {ccd : Value} {cl : List (Str × Addr)} {outer : List Env} {A₀ : Around} {base h₀ : Heap} {L : Addr} {m : Str → Option Value} {s : Shared} {Q E : Value → Shared → Prop}
  (B : Below A₀ base outer h₀) (F : Fr h₀ L s.heap m) (X : (hd.heap_39 w.params).In h₀) (N : News h₀ L s.heap ((76, o1) :: (83, o2) :: (48, o3) :: (tb, instObj 239 td) :: (td, dictOf [{ hash := PyData.keyHash w.params (Str.ofString "_headers"), key := .str (Str.ofString "_headers") kt, val := .ref lst }] 1) :: (lst, W.listOf (hdRefs hs).toArray e) :: (tail ++ keep))) (T : Top p loose mean mg mb h₀) (hk : cs.kind = .function)
  (hA : Ap tb td lst tail keep) (hk5 : k < 5) (hok : HdOk hs) (hsub : ∀ q ∈ hdNews hs, q ∈ tail) (hsz : hs.length < 1000) (hd : dp + 10 < recursionLimit) (hu : un + 100 < cLine)
  (hret : ∀ (e' : Nat) (h' : Heap) (tk' : Nat), Fr h₀ L h' m → News h₀ L h' ((76, o1) :: (83, o2) :: (48, o3) :: (tb, instObj 239 td) :: (td, dictOf [{ hash := PyData.keyHash w.params (Str.ofString "_headers"), key := .str (Str.ofString "_headers") kt, val := .ref lst }] 1) :: (lst, W.listOf (hdRefs (hs.filter fun h => !(h.k == k))).toArray e') :: (tail ++ keep)) → Q .none { s with heap := h', toks := tk' }) :
  wpAny (model Challenge.rw_ny0343_01.row.prog w) (ktrTop dp un gd cn cs L a ccd cl outer) (call (.ref 159) [.ref tb, .str (nmOf k up) t1]) Q E s := by
  have hA1 := hA.1
  refine c_del B F X (news_sub N (l' := (tb, instObj 239 td) :: (td, dictOf [{ hash := PyData.keyHash w.params (Str.ofString "_headers"), key := .str (Str.ofString "_headers") kt, val := .ref lst }] 1) :: (lst, W.listOf (hdRefs hs).toArray e) :: (76, o1) :: (83, o2) :: (48, o3) :: (tail ++ keep)) (by walk_at "sub go")) T hk hk5 hok (fun q hq => by first | (walk_at "mem go") | simp [hsub q hq]) hsz hA1.2.2.2.1 hA1.2.2.2.2 ?_ hd hu ?_
  · intro p hp
    simp only [List.mem_cons] at hp
    rcases hp with rfl | rfl | rfl | hp
    · exact (show @Ne Nat 76 lst by omega)
    · exact (show @Ne Nat 83 lst by omega)
    · exact (show @Ne Nat 48 lst by omega)
    · exact (hA.both p hp).2.2.2
  intro e' h' tk' F' N'
  exact hret e' h' tk' F' (news_sub N' (by walk_at "sub go"))
theorem d_add {w : World} {p : Program} {loose : List Str} {mean : ExcName → Option Value} {mg mb : Str → Option Value}
  {k n : Nat} {up : Bool} {t1 t2 : Tok} {hs : List Hd} {o1 o2 o3 : Obj} {e : Nat} {tail keep : List (Addr × Obj)} {kt : Tok} {tb td lst : Addr}
  {dp un : Nat} {gd : Option (List Code)} {cn : Str} {cs : Scope} {a : Addr} {ccd : Value} {cl : List (Str × Addr)} {outer : List Env} {A₀ : Around} {base h₀ : Heap} {L : Addr} {m : Str → Option Value} {s : Shared} {Q E : Value → Shared → Prop}
  (B : Below A₀ base outer h₀) (F : Fr h₀ L s.heap m) (X : (hd.heap_39 w.params).In h₀) (N : News h₀ L s.heap ((76, o1) :: (83, o2) :: (48, o3) :: (tb, instObj 239 td) :: (td, dictOf [{ hash := PyData.keyHash w.params (Str.ofString "_headers"), key := .str (Str.ofString "_headers") kt, val := .ref lst }] 1) :: (lst, W.listOf (hdRefs hs).toArray e) :: (tail ++ keep))) (T : Top p loose mean mg mb h₀) (hk : cs.kind = .function)
  (hA : Ap tb td lst tail keep) (hk5 : k < 5) (hn : n ∈ worthList) (hsz : hs.length < 1000) (hd : dp + 10 < recursionLimit) (hu : un + 100 < cLine)
  (hret : ∀ (h : Hd) (e' : Nat) (h' : Heap) (tk' : Nat), h.k = k → h.n = n → Fr h₀ L h' m → News h₀ L h' ((76, o1) :: (83, o2) :: (48, o3) :: (tb, instObj 239 td) :: (td, dictOf [{ hash := PyData.keyHash w.params (Str.ofString "_headers"), key := .str (Str.ofString "_headers") kt, val := .ref lst }] 1) :: (lst, W.listOf (hdRefs (hs ++ [h])).toArray e') :: (((h.a, hdObj h) :: tail) ++ keep)) → Ap tb td lst ((h.a, hdObj h) :: tail) keep → Q .none { s with heap := h', toks := tk' }) :
  wpAny (model Challenge.rw_ny0343_01.row.prog w) (ktrTop dp un gd cn cs L a ccd cl outer) (call (.ref 236) [.ref tb, .str (nmOf k up) t1, .str (num n) t2]) Q E s := by
  have hA1 := hA.1
  refine c_add B F X (news_sub N (l' := (tb, instObj 239 td) :: (td, dictOf [{ hash := PyData.keyHash w.params (Str.ofString "_headers"), key := .str (Str.ofString "_headers") kt, val := .ref lst }] 1) :: (lst, W.listOf (hdRefs hs).toArray e) :: (76, o1) :: (83, o2) :: (48, o3) :: (tail ++ keep)) (by walk_at "sub go")) T hk (nm_safe hk5) (num_safe hn) hA1.2.2.2.1 hA1.2.2.2.2 ?_ (by simp only [hdRefs, List.size_toArray, List.length_map]; exact hsz) hd hu ?_
  · intro p hp
    simp only [List.mem_cons] at hp
    rcases hp with rfl | rfl | rfl | hp
    · exact (show @Ne Nat 76 lst by omega)
    · exact (show @Ne Nat 83 lst by omega)
    · exact (show @Ne Nat 48 lst by omega)
    · exact (hA.both p hp).2.2.2
  intro t t3 h' tk' F' N' lt
  have hl := allLt_lt lt
  have er : (hdRefs hs).toArray.push (.ref t) = (hdRefs (hs ++ [⟨t, k, up, t1, n, t3⟩])).toArray := by simp [hdRefs]
  rw [er] at N'
  exact hret ⟨t, k, up, t1, n, t3⟩ (e + 1) h' tk' rfl rfl F' (news_sub N' (by simp only [hdObj]; walk_at "sub go")) (hA.tail ⟨Nat.ne_of_gt (hl (76, o1) (by first | (walk_at "mem go") | simp)), Nat.ne_of_gt (hl (83, o2) (by first | (walk_at "mem go") | simp)), Nat.ne_of_gt (hl (48, o3) (by first | (walk_at "mem go") | simp)), Nat.ne_of_gt (hl (lst, W.listOf (hdRefs hs).toArray e) (by first | (walk_at "mem go") | simp))⟩ fun q hq => Nat.ne_of_gt (hl q (by first | (walk_at "mem go") | simp [hq])))
theorem d_divmod {w : World} {p : Program} {loose : List Str} {mean : ExcName → Option Value} {mg mb : Str → Option Value}
  {x b : Int} {tx ty : Tok} {its : Array Value} {o1 o2 o3 : Obj} {e : Nat} {tail keep : List (Addr × Obj)} {kt : Tok} {tb td lst : Addr}
  {dp un : Nat} {gd : Option (List Code)} {cn : Str} {cs : Scope} {a : Addr} {ccd : Value} {cl : List (Str × Addr)} {outer : List Env} {A₀ : Around} {base h₀ : Heap} {L : Addr} {m : Str → Option Value} {s : Shared} {Q E : Value → Shared → Prop}
  (B : Below A₀ base outer h₀) (F : Fr h₀ L s.heap m) (X : (hd.heap_39 w.params).In h₀) (N : News h₀ L s.heap ((76, o1) :: (83, o2) :: (48, o3) :: (tb, instObj 239 td) :: (td, dictOf [{ hash := PyData.keyHash w.params (Str.ofString "_headers"), key := .str (Str.ofString "_headers") kt, val := .ref lst }] 1) :: (lst, W.listOf its e) :: (tail ++ keep))) (T : Top p loose mean mg mb h₀) (hk : cs.kind = .function)
  (hA : Ap tb td lst tail keep) (hS : TSt o1 o2 o3 tail) (hx0 : 0 ≤ x) (hx1 : x ≤ 31) (hb0 : 2 ≤ b) (hb1 : b ≤ 5) (C76 : CodeHd base 80 76) (C83 : CodeHd base 87 83) (hd : dp + 20 < recursionLimit) (hu : un + 160 < cLine)
  (hret : ∀ (v r : Int) (tv tr : Tok) (t : Addr) (o1' o2' : Obj) (add : List (Addr × Obj)) (h' : Heap) (tk' : Nat) (dr' : Drawn), v = x / b → r = x % b → Fr h₀ L h' m → News h₀ L h' ((t, ({ cls := .type "tuple", data := .seq #[.int v tv, .int r tr] 0 } : Obj)) :: ((76, o1') :: (83, o2') :: (48, o3) :: (tb, instObj 239 td) :: (td, dictOf [{ hash := PyData.keyHash w.params (Str.ofString "_headers"), key := .str (Str.ofString "_headers") kt, val := .ref lst }] 1) :: (lst, W.listOf its e) :: ((add ++ tail) ++ keep))) → Ap tb td lst (add ++ tail) keep → TSt o1' o2' o3 (add ++ tail) → Q (.ref t) { s with heap := h', drawn := dr', toks := tk' }) :
  wpAny (model Challenge.rw_ny0343_01.row.prog w) (ktrTop dp un gd cn cs L a ccd cl outer) (call (.ref 95) [.int x tx, .int b ty]) Q E s := by
  have hA1 := hA.1
  have nl : ∀ y : Nat, y = 76 ∨ y = 83 → ∀ p ∈ (48, o3) :: (tb, instObj 239 td) :: (td, dictOf [{ hash := PyData.keyHash w.params (Str.ofString "_headers"), key := .str (Str.ofString "_headers") kt, val := .ref lst }] 1) :: (lst, W.listOf its e) :: (tail ++ keep), @Ne Nat p.1 y := fun y hy p hp => by
    simp only [List.mem_cons] at hp
    rcases hp with rfl | rfl | rfl | rfl | hp
    · exact (show @Ne Nat 48 y by omega)
    · exact (show @Ne Nat tb y by omega)
    · exact (show @Ne Nat td y by omega)
    · exact (show @Ne Nat lst y by omega)
    · have := hA.both p hp
      rcases hy with rfl | rfl
      · exact this.1
      · exact this.2.1
  refine c_divmod_pos (tS := tail) B F X N T hk hx0 hx1 hb0 hb1 C76 C83 hS.1 hS.2.1 (fun q hq => by first | (walk_at "mem go") | simp [hq]) (nl 76 (.inl rfl)) (nl 83 (.inr rfl)) hd hu ?_
  intro v r tv tr t c1 c2 oc1 oc2 vs1 vs2 t1 t2 h' tk' dr' F' N' e1 e2 a1 a2 a3 a4 b1 b2 b3 b4
  refine hret v r tv tr t (tabObj #[rawInt 90, rawInt 4, .ref c1]) (tabObj #[rawInt 105, rawInt 4, .ref c2]) [(c1, oc1), (c2, oc2)] h' tk' dr' e1 e2 F' (news_sub N' (by walk_at "sub go")) ?_ ⟨.inr ⟨c1, oc1, vs1, t1, rfl, by simp, a1, a2, a3⟩, .inr ⟨c2, oc2, vs2, t2, rfl, by simp, b1, b2, b3⟩, hS.2.2.sub fun q hq => by simp [hq]⟩
  have z1 : (@Ne Nat c1 76) ∧ (@Ne Nat c1 83) ∧ (@Ne Nat c1 48) ∧ (@Ne Nat c1 lst) := ⟨a3, news_dif N' (o := oc1) (o' := tabObj #[rawInt 105, rawInt 4, .ref c2]) (by first | (walk_at "mem go") | simp) (by first | (walk_at "mem go") | simp) (tab_dif a1 a2),
    news_dif N' (o := oc1) (o' := o3) (by first | (walk_at "mem go") | simp) (by first | (walk_at "mem go") | simp) (tabSt_dif hS.2.2 a1 a2), news_dif N' (o := oc1) (o' := W.listOf its e) (by first | (walk_at "mem go") | simp) (by first | (walk_at "mem go") | simp) (list_dif a1)⟩
  have z2 : (@Ne Nat c2 76) ∧ (@Ne Nat c2 83) ∧ (@Ne Nat c2 48) ∧ (@Ne Nat c2 lst) := ⟨news_dif N' (o := oc2) (o' := tabObj #[rawInt 90, rawInt 4, .ref c1]) (by first | (walk_at "mem go") | simp) (by first | (walk_at "mem go") | simp) (tab_dif b1 b2), b3,
    news_dif N' (o := oc2) (o' := o3) (by first | (walk_at "mem go") | simp) (by first | (walk_at "mem go") | simp) (tabSt_dif hS.2.2 b1 b2), news_dif N' (o := oc2) (o' := W.listOf its e) (by first | (walk_at "mem go") | simp) (by first | (walk_at "mem go") | simp) (list_dif b1)⟩
  have y1 : ∀ q ∈ keep, @Ne Nat c1 q.1 := fun q hq => by
    rcases a4 with a4 | a4
    · exact hA.2.2.2 _ a4 q hq
    · exact Nat.ne_of_gt (allLt_lt a4 q (by first | (walk_at "mem go") | simp [hq]))
  have y2 : ∀ q ∈ keep, @Ne Nat c2 q.1 := fun q hq => by
    rcases b4 with b4 | b4
    · exact hA.2.2.2 _ b4 q hq
    · exact Nat.ne_of_gt (allLt_lt b4 q (by first | (walk_at "mem go") | simp [hq]))
  exact (hA.tail z2 y2).tail z1 y1
theorem d_ifs {w : World} {p : Program} {loose : List Str} {mean : ExcName → Option Value} {mg mb : Str → Option Value}
  {n : Nat} {ts : Tok} {its : Array Value} {o1 o2 o3 : Obj} {e : Nat} {tail keep : List (Addr × Obj)} {kt : Tok} {tb td lst : Addr}
  {dp un : Nat} {gd : Option (List Code)} {cn : Str} {cs : Scope} {a : Addr} {ccd : Value} {cl : List (Str × Addr)} {outer : List Env} {A₀ : Around} {base h₀ : Heap} {L : Addr} {m : Str → Option Value} {s : Shared} {Q E : Value → Shared → Prop}
  (B : Below A₀ base outer h₀) (F : Fr h₀ L s.heap m) (X : (hd.heap_39 w.params).In h₀) (N : News h₀ L s.heap ((76, o1) :: (83, o2) :: (48, o3) :: (tb, instObj 239 td) :: (td, dictOf [{ hash := PyData.keyHash w.params (Str.ofString "_headers"), key := .str (Str.ofString "_headers") kt, val := .ref lst }] 1) :: (lst, W.listOf its e) :: (tail ++ keep))) (T : Top p loose mean mg mb h₀) (hk : cs.kind = .function)
  (hA : Ap tb td lst tail keep) (hS : TSt o1 o2 o3 tail) (hn : n ∈ worthList) (C48 : CodeHd base 52 48) (hd : dp + 30 < recursionLimit) (hu : un + 240 < cLine)
  (hret : ∀ (tv : Tok) (o3' : Obj) (add : List (Addr × Obj)) (h' : Heap) (tk' : Nat) (dr' : Drawn), Fr h₀ L h' m → News h₀ L h' ((76, o1) :: (83, o2) :: (48, o3') :: (tb, instObj 239 td) :: (td, dictOf [{ hash := PyData.keyHash w.params (Str.ofString "_headers"), key := .str (Str.ofString "_headers") kt, val := .ref lst }] 1) :: (lst, W.listOf its e) :: ((add ++ tail) ++ keep)) → Ap tb td lst (add ++ tail) keep → TSt o1 o2 o3' (add ++ tail) → Q (.int n tv) { s with heap := h', drawn := dr', toks := tk' }) :
  wpAny (model Challenge.rw_ny0343_01.row.prog w) (ktrTop dp un gd cn cs L a ccd cl outer) (call (.ref 60) [.str (num n) ts]) Q E s := by
  have hA1 := hA.1
  have nl : ∀ p ∈ (76, o1) :: (83, o2) :: (tb, instObj 239 td) :: (td, dictOf [{ hash := PyData.keyHash w.params (Str.ofString "_headers"), key := .str (Str.ofString "_headers") kt, val := .ref lst }] 1) :: (lst, W.listOf its e) :: (tail ++ keep), @Ne Nat p.1 48 := fun p hp => by
    simp only [List.mem_cons] at hp
    rcases hp with rfl | rfl | rfl | rfl | rfl | hp
    · exact (show @Ne Nat 76 48 by omega)
    · exact (show @Ne Nat 83 48 by omega)
    · exact (show @Ne Nat tb 48 by omega)
    · exact (show @Ne Nat td 48 by omega)
    · exact (show @Ne Nat lst 48 by omega)
    · exact (hA.both p hp).2.2.1
  refine c_ifs B F X (news_sub N (l' := (48, o3) :: (76, o1) :: (83, o2) :: (tb, instObj 239 td) :: (td, dictOf [{ hash := PyData.keyHash w.params (Str.ofString "_headers"), key := .str (Str.ofString "_headers") kt, val := .ref lst }] 1) :: (lst, W.listOf its e) :: (tail ++ keep)) (by walk_at "sub go")) T hk hn C48 hS.2.2 (fun q hq => by first | (walk_at "mem go") | simp [hq]) nl hd hu ?_
  intro v tv c' oc vs' t h' tk' dr' F' N' e1 a1 a2 a3 a4
  subst e1
  refine hret tv (tabObj #[rawInt 50, rawInt 4, .ref c']) [(c', oc)] h' tk' dr' F' (news_sub N' (by walk_at "sub go")) (hA.tail ⟨?_, ?_, a3, ?_⟩ fun q hq => ?_) ⟨hS.1.sub fun q hq => by simp [hq], hS.2.1.sub fun q hq => by simp [hq], .inr ⟨c', oc, vs', t, rfl, by simp, a1, a2, a3⟩⟩
  · exact news_dif N' (o := oc) (o' := o1) (by first | (walk_at "mem go") | simp) (by first | (walk_at "mem go") | simp) (tabSt_dif hS.1 a1 a2)
  · exact news_dif N' (o := oc) (o' := o2) (by first | (walk_at "mem go") | simp) (by first | (walk_at "mem go") | simp) (tabSt_dif hS.2.1 a1 a2)
  · exact news_dif N' (o := oc) (o' := W.listOf its e) (by first | (walk_at "mem go") | simp) (by first | (walk_at "mem go") | simp) (list_dif a1)
  · rcases a4 with a4 | a4
    · exact hA.2.2.2 _ a4 q hq
    · exact Nat.ne_of_gt (allLt_lt a4 q (by first | (walk_at "mem go") | simp [hq]))
end PartW12
section PartC12
def HdW (wt : Nat → Nat) (hs : List Hd) : Prop := ∀ h ∈ hs, h.k < 5 ∧ h.n = wt h.k
def cnt (hs : List Hd) (k : Nat) : Nat := (hs.filter fun h => h.k == k).length
theorem item_up {k : Nat} (h : k < 4) : Txt.item (Str.ofString "ABCD") (k : Int) = nmOf k true := by
  have : ∀ k < 4, Txt.item (Str.ofString "ABCD") ((k : Nat) : Int) = nmOf k true := by decide +kernel
  exact this k h
theorem item_lo {k : Nat} (h : k < 4) : Txt.item (Str.ofString "abcd") (k : Int) = nmOf k false := by
  have : ∀ k < 4, Txt.item (Str.ofString "abcd") ((k : Nat) : Int) = nmOf k false := by decide +kernel
  exact this k h
theorem item_nx {k : Nat} (h : k < 4) : Txt.item (Str.ofString "BCDE") (k : Int) = nmOf (k + 1) true := by
  have : ∀ k < 4, Txt.item (Str.ofString "BCDE") ((k : Nat) : Int) = nmOf (k + 1) true := by decide +kernel
  exact this k h
theorem news_front {h₀ h : Heap} {L : Addr} {l : List (Addr × Obj)} {q : Addr × Obj} (N : News h₀ L h l) (hq : q ∈ l) : News h₀ L h (q :: l) := fun p hp => by
  rcases List.mem_cons.mp hp with rfl | hp
  · exact N _ hq
  · exact N _ hp
theorem len_vals {prog : Program} {w : World} {A : Around} {E : Value → Shared → Prop} {s : Shared} {l : Addr} {vals : List Value} {Q : Value → Shared → Prop} (hl : s.heap.IsList l vals.toArray) (hfit : vals.length ≤ 31)
    (hq : Q (.int (vals.length : Nat) (s.toks + 1)) { s with toks := s.toks + 1 + 1 }) : wpAny (model prog w) A (call (.builtin "len") [.ref l]) Q E s :=
  len_list hl (by rw [List.size_toArray]; omega) (by rw [List.size_toArray]; exact hq)
theorem vals_are {wt : Nat → Nat} {hs : List Hd} {k : Nat} (h : HdW wt hs) : ∀ v ∈ ((hs.filter fun h => h.k == k).map fun h => Value.str (num h.n) h.tv), ∃ t, v = .str (num (wt k)) t := fun v hv => by
  obtain ⟨x, hx, rfl⟩ := List.mem_map.mp hv
  obtain ⟨h1, h2⟩ := List.mem_filter.mp hx
  have h3 : x.k = k := by simpa using h2
  exact ⟨x.tv, by rw [(h x h1).2, h3]⟩
theorem item_nat {prog : Program} {w : World} {A : Around} {E : Value → Shared → Prop} {s : Shared} {value slice : Expr} {l : Addr} {items : Array Value} {k : Nat} {u : Tok} {x : Value} {Q : Value → Shared → Prop} (hl : s.heap.IsList l items)
    (hk : k < 5) (hx : items[k]? = some x) (h : Q x s)
    (hs : subscripted slice false (.ref l) (.int (k : Int) u) = operate [.ref l, .int (k : Int) u] (getItem (.ref l) (.int (k : Int) u)) := by with_unfolding_all rfl) (hg : ∀ r, letTemporaryGo value (.ref l) r = pure () := by intro _; with_unfolding_all rfl) :
    wpAny (model prog w) A (subscriptTail value slice (.ref l) (.int (k : Int) u)) Q E s :=
  item_list hl (by omega) (by omega) (by rw [Int.toNat_natCast]; exact hx) h hs hg
section
variable {M : Model} {A : Around} {E : Value → Shared → Prop} {s : Shared} {K : Frag} {x C L f : Addr} {h₀ : Heap} {m : Str → Option Value} {ox : Obj} {od : Option Obj} {i : Value}
theorem own_delItem {Q : Unit → Shared → Prop} (F : Fr h₀ L s.heap m) (X₀ : K.In h₀) (I : InstAt s.heap x ox C od) (hq : noSeq K C = true) (hs : findIn K (.ref C) "__delitem__" = some (some (.ref f))) (hf : isFn K (.ref f) = true)
    (h : wpAny M A (call (.ref f) [.ref x, i]) (fun _ s' => Q () s') E s) : wpAny M A (delItem (.ref x) i) Q E s := by
  have X := X₀.keeps F.keep
  unfold delItem sequenceKey
  refine wpAny_holding (wpAny_bind (wpAny_bind (I.type.here ?_)))
  refine wpAny_bind ((anyM_none X hq).here ?_)
  rw [if_pos (show (!false) = true from rfl)]
  exact wpAny_pure (wpAny_bind (special_fn X I hs (beq_iff_eq.mp hf) (wpAny_mono h (fun _ _ z => wpAny_pure z) fun _ _ z => z)))
end
theorem Ap.drop {tb td lst : Addr} {q : Addr × Obj} {tail keep : List (Addr × Obj)} (h : Ap tb td lst tail (q :: keep)) : Ap tb td lst tail keep :=
  ⟨h.1, h.2.1, fun p hp => h.2.2.1 p (List.mem_cons_of_mem _ hp), fun p hp q' hq => h.2.2.2 p hp q' (List.mem_cons_of_mem _ hq)⟩
theorem ap_loop {w : World} {kt : Tok} {tb td lst I : Addr} {oI o1 o2 o3 : Obj} {its : Array Value} {e : Nat} {front tail keep K : List (Addr × Obj)} (off : PyProof.Rows.LCg.Off1 I (front ++ ((76, o1) :: (83, o2) :: (48, o3) :: (tb, instObj 239 td) :: (td, dictOf [{ hash := PyData.keyHash w.params (Str.ofString "_headers"), key := .str (Str.ofString "_headers") kt, val := .ref lst }] 1) :: (lst, W.listOf its e) :: (tail ++ keep))))
    (hA : Ap tb td lst tail K) : Ap tb td lst tail ((I, oI) :: K) := by
  have om := off1_mem off
  exact hA.keep ⟨Ne.symm (om (76, o1) (by first | (walk_at "mem go") | simp)), Ne.symm (om (83, o2) (by first | (walk_at "mem go") | simp)), Ne.symm (om (48, o3) (by first | (walk_at "mem go") | simp)), Ne.symm (om (lst, W.listOf its e) (by first | (walk_at "mem go") | simp))⟩ fun q hq => om q (by first | (walk_at "mem go") | simp [hq])
theorem off_led {w : World} {kt : Tok} {tb td lst I : Addr} {oI o1 o2 o3 o1' o2' o3' : Obj} {its its' : Array Value} {e e' : Nat} {front tail tail' keep K : List (Addr × Obj)} (off : PyProof.Rows.LCg.Off1 I (front ++ ((76, o1) :: (83, o2) :: (48, o3) :: (tb, instObj 239 td) :: (td, dictOf [{ hash := PyData.keyHash w.params (Str.ofString "_headers"), key := .str (Str.ofString "_headers") kt, val := .ref lst }] 1) :: (lst, W.listOf its e) :: (tail ++ keep))))
    (hA : Ap tb td lst tail' ((I, oI) :: K)) : PyProof.Rows.LCg.Off1 I (front ++ ((76, o1') :: (83, o2') :: (48, o3') :: (tb, instObj 239 td) :: (td, dictOf [{ hash := PyData.keyHash w.params (Str.ofString "_headers"), key := .str (Str.ofString "_headers") kt, val := .ref lst }] 1) :: (lst, W.listOf its' e') :: (tail' ++ keep))) := by
  have om := off1_mem off
  refine off1_of fun p hp => ?_
  simp only [List.mem_append, List.mem_cons] at hp
  rcases hp with hp | rfl | rfl | rfl | rfl | rfl | rfl | hp | hp
  · exact om p (by first | (walk_at "mem go") | simp [hp])
  · exact om (76, o1) (by first | (walk_at "mem go") | simp)
  · exact om (83, o2) (by first | (walk_at "mem go") | simp)
  · exact om (48, o3) (by first | (walk_at "mem go") | simp)
  · exact om (tb, instObj 239 td) (by first | (walk_at "mem go") | simp)
  · exact om (td, _) (by first | (walk_at "mem go") | simp)
  · exact om (lst, W.listOf its e) (by first | (walk_at "mem go") | simp)
  · exact hA.2.2.2 p hp (I, oI) List.mem_cons_self
  · exact om p (by first | (walk_at "mem go") | simp [hp])
theorem hdNews_filter {f : Hd → Bool} {hs : List Hd} {q : Addr × Obj} (h : q ∈ hdNews (hs.filter f)) : q ∈ hdNews hs := by
  obtain ⟨x, hx, rfl⟩ := List.mem_map.mp h
  exact List.mem_map.mpr ⟨x, (List.mem_filter.mp hx).1, rfl⟩
theorem ne_succ {l : List (Addr × Obj)} {n : Nat} (h : ∀ p ∈ l, p.1 < n) : ∀ p ∈ l, @Ne Nat p.1 (n + 1) := fun p hp => Nat.ne_of_lt (Nat.lt_succ_of_lt (h p hp))
theorem small_q {q : Nat} (h : q < 32) : Builtin.Range.small 0 (q : Int) 1 = true := by
  have : ∀ q < 32, Builtin.Range.small 0 ((q : Nat) : Int) 1 = true := by decide +kernel
  exact this q h
theorem size_q {q : Nat} (h : q < 32) : Builtin.Range.rangeSize 0 (q : Int) 1 = ((q : Nat) : Int) := by
  have : ∀ q < 32, Builtin.Range.rangeSize 0 ((q : Nat) : Int) 1 = ((q : Nat) : Int) := by decide +kernel
  exact this q h
theorem full_are {vals : List Value} {rr i b q : Nat} {x : Str} (hq : b * q + rr = vals.length) (hi : i < q) (hv : ∀ v ∈ vals, ∃ t, v = .str x t) :
    ∃ fl : List Value, slicePick vals.toArray (some ((rr : Int) + (0 + (i : Int)) * (b : Int))) (some ((rr : Int) + ((0 + (i : Int)) + 1) * (b : Int))) none = fl.toArray ∧ fl.length = b ∧ ∀ v ∈ fl, ∃ t, v = .str x t := by
  have e1 : (rr : Int) + (0 + (i : Int)) * (b : Int) = ((rr + i * b : Nat) : Int) := by rw [Int.zero_add, Int.natCast_add, Int.natCast_mul]
  have e2 : (rr : Int) + ((0 + (i : Int)) + 1) * (b : Int) = ((rr + (i + 1) * b : Nat) : Int) := by rw [Int.zero_add, Int.natCast_add, Int.natCast_mul, Int.natCast_add]; rfl
  have h1 : (i + 1) * b ≤ b * q := by rw [Nat.mul_comm b q]; exact Nat.mul_le_mul hi (Nat.le_refl b)
  have h2 : (i + 1) * b = i * b + b := Nat.succ_mul i b
  refine ⟨(vals.drop (rr + i * b)).take b, ?_, ?_, fun v hm => hv v (List.mem_of_mem_drop (List.mem_of_mem_take hm))⟩
  · rw [e1, e2, slicePick_run vals.toArray (rr + i * b) (rr + (i + 1) * b) (by rw [List.size_toArray]; omega) (by omega)]
    rw [show rr + (i + 1) * b - (rr + i * b) = b by omega]
  · rw [List.length_take, List.length_drop]; omega
theorem ap_comp {w : World} {kt : Tok} {tb td lst I C D : Addr} {oI oC oD o1 o2 o3 : Obj} {its : Array Value} {e : Nat} {front tail keep K : List (Addr × Obj)} (off : PyProof.Rows.LCg.Off3 I C D (front ++ ((76, o1) :: (83, o2) :: (48, o3) :: (tb, instObj 239 td) :: (td, dictOf [{ hash := PyData.keyHash w.params (Str.ofString "_headers"), key := .str (Str.ofString "_headers") kt, val := .ref lst }] 1) :: (lst, W.listOf its e) :: (tail ++ keep))))
    (hA : Ap tb td lst tail K) : Ap tb td lst tail ((I, oI) :: (C, oC) :: (D, oD) :: K) := by
  have om := off.mem
  have a := om (76, o1) (by first | (walk_at "mem go") | simp)
  have b := om (83, o2) (by first | (walk_at "mem go") | simp)
  have c := om (48, o3) (by first | (walk_at "mem go") | simp)
  have d := om (lst, W.listOf its e) (by first | (walk_at "mem go") | simp)
  have t : ∀ q ∈ tail, _ := fun q hq => om q (by first | (walk_at "mem go") | simp [hq])
  exact ((hA.keep ⟨Ne.symm a.2.2, Ne.symm b.2.2, Ne.symm c.2.2, Ne.symm d.2.2⟩ fun q hq => (t q hq).2.2).keep ⟨Ne.symm a.2.1, Ne.symm b.2.1, Ne.symm c.2.1, Ne.symm d.2.1⟩ fun q hq => (t q hq).2.1).keep ⟨Ne.symm a.1, Ne.symm b.1, Ne.symm c.1, Ne.symm d.1⟩ fun q hq => (t q hq).1
theorem off_comp {w : World} {kt : Tok} {tb td lst I C D : Addr} {oI oC oD o1 o2 o3 o1' o2' o3' : Obj} {its its' : Array Value} {e e' : Nat} {front tail tail' keep K : List (Addr × Obj)} (off : PyProof.Rows.LCg.Off3 I C D (front ++ ((76, o1) :: (83, o2) :: (48, o3) :: (tb, instObj 239 td) :: (td, dictOf [{ hash := PyData.keyHash w.params (Str.ofString "_headers"), key := .str (Str.ofString "_headers") kt, val := .ref lst }] 1) :: (lst, W.listOf its e) :: (tail ++ keep))))
    (hA : Ap tb td lst tail' ((I, oI) :: (C, oC) :: (D, oD) :: K)) : PyProof.Rows.LCg.Off3 I C D (front ++ ((76, o1') :: (83, o2') :: (48, o3') :: (tb, instObj 239 td) :: (td, dictOf [{ hash := PyData.keyHash w.params (Str.ofString "_headers"), key := .str (Str.ofString "_headers") kt, val := .ref lst }] 1) :: (lst, W.listOf its' e') :: (tail' ++ keep))) := by
  have om := off.mem
  refine PyProof.Rows.LCg.Off3.of fun p hp => ?_
  simp only [List.mem_append, List.mem_cons] at hp
  rcases hp with hp | rfl | rfl | rfl | rfl | rfl | rfl | hp | hp
  · exact om p (by first | (walk_at "mem go") | simp [hp])
  · exact om (76, o1) (by first | (walk_at "mem go") | simp)
  · exact om (83, o2) (by first | (walk_at "mem go") | simp)
  · exact om (48, o3) (by first | (walk_at "mem go") | simp)
  · exact om (tb, instObj 239 td) (by first | (walk_at "mem go") | simp)
  · exact om (td, _) (by first | (walk_at "mem go") | simp)
  · exact om (lst, W.listOf its e) (by first | (walk_at "mem go") | simp)
  · exact ⟨hA.2.2.2 p hp (I, oI) (by first | (walk_at "mem go") | simp), hA.2.2.2 p hp (C, oC) (by first | (walk_at "mem go") | simp), hA.2.2.2 p hp (D, oD) (by first | (walk_at "mem go") | simp)⟩
  · exact om p (by first | (walk_at "mem go") | simp [hp])
theorem ints_same {n : Int} : ∀ {ys : List Value}, (∀ y ∈ ys, ∃ t, y = .int n t) → IntsAre ys (List.replicate ys.length n)
  | [], _ => .nil
  | y :: r, h => by
    obtain ⟨t, rfl⟩ := h y List.mem_cons_self
    exact .cons n t (ints_same fun z hz => h z (List.mem_cons_of_mem _ hz))
theorem sum_same (n : Int) : ∀ b : Nat, (List.replicate b n).sum = b * n
  | 0 => by simp
  | b + 1 => by rw [List.replicate_succ, List.sum_cons, sum_same n b, Int.natCast_add, Int.add_mul]; omega
theorem str_num {prog : Program} {w : World} {A : Around} {E : Value → Shared → Prop} {s : Shared} {n : Nat} {t : Tok} {Q : Value → Shared → Prop} (hn : n ∈ worthList) (h : Q (.str (num n) s.toks) { s with toks := s.toks + 1 }) : wpAny (model prog w) A (call (.type "str") [.int (n : Int) t]) Q E s := by
  have := worth_lt hn
  exact PySem.P.str_of_int (shown (N := 2 ^ 1920) (by omega) (by omega) (Int.le_refl _)) h
theorem cnt_append (a b : List Hd) (j : Nat) : cnt (a ++ b) j = cnt a j + cnt b j := by
  unfold cnt; rw [List.filter_append, List.length_append]
theorem cnt_same {l : List Hd} {k : Nat} (h : ∀ x ∈ l, x.k = k) (j : Nat) : cnt l j = if j = k then l.length else 0 := by
  unfold cnt
  by_cases hj : j = k
  · rw [if_pos hj, List.filter_eq_self.mpr fun x hx => by rw [h x hx, hj]; exact beq_self_eq_true k]
  · rw [if_neg hj, List.filter_eq_nil_iff.mpr fun x hx => by rw [h x hx]; simp; exact fun e => hj e.symm]; rfl
theorem cnt_drop (hs : List Hd) (k j : Nat) : cnt (hs.filter fun h => !(h.k == k)) j = if j = k then 0 else cnt hs j := by
  unfold cnt
  rw [List.filter_filter]
  by_cases hj : j = k
  · rw [if_pos hj, List.filter_eq_nil_iff.mpr fun x _ => by rw [hj]; simp]; rfl
  · rw [if_neg hj]
    congr 1
    refine List.filter_congr fun x _ => ?_
    by_cases hx : x.k = j
    · have hne : x.k ≠ k := fun e => hj (hx.symm.trans e)
      simp [hx, hj]
    · simp [hx]
theorem len_drop (hs : List Hd) (k : Nat) : (hs.filter fun h => !(h.k == k)).length + cnt hs k = hs.length := by
  unfold cnt
  induction hs with
  | nil => rfl
  | cons x r ih =>
    by_cases hx : x.k = k
    · rw [List.filter_cons_of_neg (by first | (walk_at "mem go") | simp [hx]), List.filter_cons_of_pos (by first | (walk_at "mem go") | simp [hx])]; simp only [List.length_cons]; omega
    · rw [List.filter_cons_of_pos (by first | (walk_at "mem go") | simp [hx]), List.filter_cons_of_neg (by first | (walk_at "mem go") | simp [hx])]; simp only [List.length_cons]; omega
theorem HdW.ok {wt : Nat → Nat} {hs : List Hd} (h : HdW wt hs) (hwl : ∀ j < 5, wt j ∈ worthList) : HdOk hs := fun x hx => ⟨(h x hx).1, (h x hx).2 ▸ hwl _ (h x hx).1⟩
section
local macro_rules | `(tactic| walk_at "exec For Name Call cons nil") => `(tactic| (k_here; k_dflt (refine lp_for ?_)))
local macro_rules | `(tactic| walk_at "eval ListComp") => `(tactic| (k_here; k_dflt (refine cp_comp (by with_unfolding_all rfl) (by rfl) (by decide) ?_)))
local macro_rules | `(tactic| walk_at "delItem ref str") => `(tactic| (k_here; (with_reducible show wpAny _ _ (delItem (Value.ref _) _) _ _ _); k_dflt (refine' own_delItem ?F ?X ?I ?hQ ?hS ?hF ?_; (case F => k_asm); (case X => k_asm); (case I => k_inst); (case hS => k_is); (case hF => k_is); (case hQ => k_is); k_whole)))
local macro_rules | `(tactic| walk_at "subscriptTail") => `(tactic| (k_here; (with_reducible show wpAny _ _ (subscriptTail _ _ (Value.ref _) (Value.int (Nat.cast _) _)) _ _ _); k_dflt (refine item_nat (News.isList (by k_asm) (by k_mem)) (by omega) (by assumption) ?_)))
local macro_rules | `(tactic| walk_at "subscriptTail Name Name ref int") => `(tactic| (k_here; (with_reducible show wpAny _ _ (subscriptTail _ _ (Value.ref _) (Value.int (Nat.cast _) _)) _ _ _); k_dflt (refine item_nat (News.isList (by k_asm) (by k_mem)) (by omega) (by assumption) ?_)))
local macro_rules | `(tactic| walk_at "call builtin:len") => `(tactic| (k_here; (with_reducible show wpAny _ _ (call (Value.builtin "len") [Value.ref _]) _ _ _); k_dflt (refine len_vals (News.isList (by k_asm) (by k_mem)) (by assumption) ?_)))
local macro_rules | `(tactic| walk_at "exec For") => `(tactic| (k_here; k_dflt (refine lp_for ?_)))
theorem c_carry {w : World} {p : Program} {loose : List Str} {mean : ExcName → Option Value} {mg mb : Str → Option Value}
  {k : Nat} {tk : Tok} {wt : Nat → Nat} {hs : List Hd} {e : Nat} {o1 o2 o3 : Obj} {tail keep : List (Addr × Obj)} {kt : Tok} {tb td lst bl : Addr} {bits : Array Value} {eb : Nat} {b : Nat} {ub : Tok}
  {dp un : Nat} {gd : Option (List Code)} {cn : Str} {cs : Scope} {a : Addr} {ccd : Value} {cl : List (Str × Addr)} {outer : List Env} {A₀ : Around} {base h₀ : Heap} {L : Addr} {m : Str → Option Value} {s : Shared} {Q E : Value → Shared → Prop}
  (B : Below A₀ base outer h₀) (F : Fr h₀ L s.heap m) (X : (hd.heap_39 w.params).In h₀) (N : News h₀ L s.heap ((76, o1) :: (83, o2) :: (48, o3) :: (tb, instObj 239 td) :: (td, dictOf [{ hash := PyData.keyHash w.params (Str.ofString "_headers"), key := .str (Str.ofString "_headers") kt, val := .ref lst }] 1) :: (lst, W.listOf (hdRefs hs).toArray e) :: (tail ++ keep))) (T : Top p loose mean mg mb h₀) (hk : cs.kind = .function)
  (hA : Ap tb td lst tail keep) (hS : TSt o1 o2 o3 tail) (hk4 : k < 4) (hb : bits[k]? = some (.int b ub)) (hb0 : 2 ≤ b) (hb1 : b ≤ 5) (hbl : (bl, W.listOf bits eb) ∈ keep) (hwt : HdW wt hs) (hwl : ∀ j < 5, wt j ∈ worthList) (hw1 : wt (k + 1) = wt k * b) (hsub : ∀ q ∈ hdNews hs, q ∈ tail) (hsz : hs.length ≤ 31) (C76 : CodeHd base 80 76) (C83 : CodeHd base 87 83) (C48 : CodeHd base 52 48) (hd : dp + 50 < recursionLimit) (hu : un + 400 < cLine)
  (hret : ∀ (tv : Tok) (hs' : List Hd) (e' : Nat) (o1' o2' o3' : Obj) (tail' : List (Addr × Obj)) (h' : Heap) (tk' : Nat) (dr' : Drawn), Fr h₀ L h' m → News h₀ L h' ((76, o1') :: (83, o2') :: (48, o3') :: (tb, instObj 239 td) :: (td, dictOf [{ hash := PyData.keyHash w.params (Str.ofString "_headers"), key := .str (Str.ofString "_headers") kt, val := .ref lst }] 1) :: (lst, W.listOf (hdRefs hs').toArray e') :: (tail' ++ keep)) → Ap tb td lst tail' keep → TSt o1' o2' o3' tail' → HdW wt hs' → (∀ q ∈ hdNews hs', q ∈ tail') → hs'.length ≤ hs.length → (∀ j, cnt hs' j = if j = k then cnt hs k % b else if j = k + 1 then cnt hs (k + 1) + cnt hs k / b else cnt hs j) → Q (.int (cnt hs k / b : Nat) tv) { s with heap := h', drawn := dr', toks := tk' }) :
  wpAny (model Challenge.rw_ny0343_01.row.prog w) (ktrTop dp un gd cn cs L a ccd cl outer) (call (.ref 248) [.ref tb, .ref bl, .int k tk]) Q E s := by
  revert X
  w_top off
  k_fill
  intro X
  have hok := hwt.ok hwl
  refine wpAny_call ?_
  k_dflt cell_enter
  repeat' ((fail_if_success (with_reducible show wpAny _ _ (call (Value.ref 178) _) _ _ _)); (fail_if_success (with_reducible show wpAny _ _ (call (Value.builtin "sum") _) _ _ _)); (fail_if_success (with_reducible show wpAny _ _ (call (Value.type "str") _) _ _ _)); (fail_if_success (with_reducible show wpAny _ _ (call (Value.ref 95) _) _ _ _)); (fail_if_success (with_reducible show wpAny _ _ (call (Value.ref 159) _) _ _ _)); (fail_if_success (with_reducible show wpAny _ _ (call (Value.ref 236) _) _ _ _)); (fail_if_success (with_reducible show wpAny _ _ (call (Value.ref 60) _) _ _ _)); (fail_if_success (with_reducible show LpSrc _ _ _ _ _ _ _ _ _ _ _)); (fail_if_success (with_reducible show CpSrc _ _ _ _ _ _ _ _ _ _ _ _ _ _ _)); first | (k_unfold; (try dsimp only)) | (k_end; wrow_close) | walk1 | (dsimp only; walk1) | (leave1; walk_say "STEP leave1"; try dsimp only) | fail "no step")
  rw [item_up hk4]
  k_dflt (refine' d_get (hs := hs) (o1 := o1) (o2 := o2) (o3 := o3) (e := e) (kt := kt) (tail := tail) (keep := keep) ?B ?F ?X ?N ?T ?hk hA ?hk5 hok hsub ?hsz ?hd ?hu ?_; (case B => k_asm); (case F => k_asm); (case X => k_asm); (case T => k_asm); (case hk => exact rfl); (case N => exact news_sub (by k_asm) (by walk_at "sub go")); (case hk5 => omega); (case hsz => omega); (case hd => ktr_room); (case hu => ktr_units))
  intro bd h1 tk1 F1 N1 hA1
  have N1 := news_front (news_front N1 (q := (bl, W.listOf bits eb)) (by first | (walk_at "mem go") | simp [hbl])) (q := (bd, W.listOf ((hs.filter fun h => h.k == k).map fun h => Value.str (num h.n) h.tv).toArray ((hs.filter fun h => h.k == k).map fun h => Value.str (num h.n) h.tv).length)) (by first | (walk_at "mem go") | simp)
  have hcl : ((hs.filter fun h => h.k == k).map fun h => Value.str (num h.n) h.tv).length = cnt hs k := by rw [List.length_map]; rfl
  have hc31 : cnt hs k ≤ 31 := Nat.le_trans (List.length_filter_le _ _) hsz
  have hvv : ∀ v ∈ ((hs.filter fun h => h.k == k).map fun h => Value.str (num h.n) h.tv), ∃ t, v = .str (num (wt k)) t := vals_are hwt
  generalize ((hs.filter fun h => h.k == k).map fun h => Value.str (num h.n) h.tv) = vals at *
  have hv31 : vals.length ≤ 31 := by omega
  dsimp only
  repeat' ((fail_if_success (with_reducible show wpAny _ _ (call (Value.ref 178) _) _ _ _)); (fail_if_success (with_reducible show wpAny _ _ (call (Value.builtin "sum") _) _ _ _)); (fail_if_success (with_reducible show wpAny _ _ (call (Value.type "str") _) _ _ _)); (fail_if_success (with_reducible show wpAny _ _ (call (Value.ref 95) _) _ _ _)); (fail_if_success (with_reducible show wpAny _ _ (call (Value.ref 159) _) _ _ _)); (fail_if_success (with_reducible show wpAny _ _ (call (Value.ref 236) _) _ _ _)); (fail_if_success (with_reducible show wpAny _ _ (call (Value.ref 60) _) _ _ _)); (fail_if_success (with_reducible show LpSrc _ _ _ _ _ _ _ _ _ _ _)); (fail_if_success (with_reducible show CpSrc _ _ _ _ _ _ _ _ _ _ _ _ _ _ _)); first | (k_unfold; (try dsimp only)) | (k_end; wrow_close) | walk1 | (dsimp only; walk1) | (leave1; walk_say "STEP leave1"; try dsimp only) | fail "no step")
  k_dflt (refine' d_divmod (its := (hdRefs hs).toArray) (o1 := o1) (o2 := o2) (o3 := o3) (e := e) (kt := kt) (tail := tail) (keep := _) ?B ?F ?X ?N ?T ?hk hA1 hS ?hx0 ?hx1 ?hb0 ?hb1 C76 C83 ?hd ?hu ?_; (case B => k_asm); (case F => k_asm); (case X => k_asm); (case T => k_asm); (case hk => exact rfl); (case N => exact news_sub (by k_asm) (by walk_at "sub go")); (case hx0 => omega); (case hx1 => omega); (case hb0 => omega); (case hb1 => omega); (case hd => ktr_room); (case hu => ktr_units))
  intro v r tv tr tu o1' o2' add h2 tk2 dr2 ev er F2 N2 hA2 hS2
  have ev2 : v = ((vals.length / b : Nat) : Int) := by rw [ev, Int.natCast_ediv]
  have er2 : r = ((vals.length % b : Nat) : Int) := by rw [er, Int.natCast_emod]
  clear ev er
  subst ev2 er2
  have hqb := Nat.div_add_mod vals.length b
  have hrb := Nat.mod_lt vals.length (show 0 < b by omega)
  generalize vals.length / b = q at *
  generalize vals.length % b = rr at *
  have N2 := news_front (news_front (news_front N2 (q := (bl, W.listOf bits eb)) (by first | (walk_at "mem go") | simp [hbl])) (q := (bd, W.listOf vals.toArray vals.length)) (by first | (walk_at "mem go") | simp)) (q := (tu, { cls := .type "tuple", data := .seq #[.int (q : Nat) tv, .int (rr : Nat) tr] 0 })) (by first | (walk_at "mem go") | simp)
  dsimp only
  repeat' ((fail_if_success (with_reducible show wpAny _ _ (call (Value.ref 178) _) _ _ _)); (fail_if_success (with_reducible show wpAny _ _ (call (Value.builtin "sum") _) _ _ _)); (fail_if_success (with_reducible show wpAny _ _ (call (Value.type "str") _) _ _ _)); (fail_if_success (with_reducible show wpAny _ _ (call (Value.ref 95) _) _ _ _)); (fail_if_success (with_reducible show wpAny _ _ (call (Value.ref 159) _) _ _ _)); (fail_if_success (with_reducible show wpAny _ _ (call (Value.ref 236) _) _ _ _)); (fail_if_success (with_reducible show wpAny _ _ (call (Value.ref 60) _) _ _ _)); (fail_if_success (with_reducible show LpSrc _ _ _ _ _ _ _ _ _ _ _)); (fail_if_success (with_reducible show CpSrc _ _ _ _ _ _ _ _ _ _ _ _ _ _ _)); first | (k_unfold; (try dsimp only)) | (k_end; wrow_close) | walk1 | (dsimp only; walk1) | (leave1; walk_say "STEP leave1"; try dsimp only) | fail "no step")
  rotate_left
  · rename ((rr : Nat) : Int) = _ => hr
    have hlt : cnt hs k < b := by omega
    have hq0 : q = cnt hs k / b := by
      rw [Nat.div_eq_of_lt hlt]
      rcases Nat.eq_zero_or_pos q with h | h
      · exact h
      · have := Nat.mul_le_mul (Nat.le_refl b) h
        omega
    rw [hq0]
    refine hret tv hs e o1' o2' o3 (add ++ tail) _ _ _ (by k_asm) (news_sub (by k_asm) (by walk_at "sub go")) hA2.drop hS2 hwt (fun q hq => by first | (walk_at "mem go") | simp [hsub q hq]) (Nat.le_refl _) ?_
    intro j
    rw [Nat.mod_eq_of_lt hlt, Nat.div_eq_of_lt hlt]
    split
    · rename j = k => hj; rw [hj]
    · split
      · rename j = k + 1 => hj; rw [hj]; rfl
      · rfl
  rw [item_lo hk4]
  k_dflt (refine' d_del (hs := hs) (o1 := o1') (o2 := o2') (o3 := o3) (e := e) (kt := kt) (tail := add ++ tail) (keep := (bd, W.listOf vals.toArray vals.length) :: keep) ?B ?F ?X ?N ?T ?hk hA2 ?hk5 hok (fun q hq => List.mem_append_right _ (hsub q hq)) ?hsz ?hd ?hu ?_; (case B => k_asm); (case F => k_asm); (case X => k_asm); (case T => k_asm); (case hk => exact rfl); (case N => exact news_sub (by k_asm) (by walk_at "sub go")); (case hk5 => omega); (case hsz => omega); (case hd => ktr_room); (case hu => ktr_units))
  intro e3 h3 tk3 F3 N3
  have N3 := news_front (news_front N3 (q := (bl, W.listOf bits eb)) (by first | (walk_at "mem go") | simp [hbl])) (q := (bd, W.listOf vals.toArray vals.length)) (by first | (walk_at "mem go") | simp)
  dsimp only
  repeat' ((fail_if_success (with_reducible show wpAny _ _ (call (Value.ref 178) _) _ _ _)); (fail_if_success (with_reducible show wpAny _ _ (call (Value.builtin "sum") _) _ _ _)); (fail_if_success (with_reducible show wpAny _ _ (call (Value.type "str") _) _ _ _)); (fail_if_success (with_reducible show wpAny _ _ (call (Value.ref 95) _) _ _ _)); (fail_if_success (with_reducible show wpAny _ _ (call (Value.ref 159) _) _ _ _)); (fail_if_success (with_reducible show wpAny _ _ (call (Value.ref 236) _) _ _ _)); (fail_if_success (with_reducible show wpAny _ _ (call (Value.ref 60) _) _ _ _)); (fail_if_success (with_reducible show LpSrc _ _ _ _ _ _ _ _ _ _ _)); (fail_if_success (with_reducible show CpSrc _ _ _ _ _ _ _ _ _ _ _ _ _ _ _)); first | (k_unfold; (try dsimp only)) | (k_end; wrow_close) | walk1 | (dsimp only; walk1) | (leave1; walk_say "STEP leave1"; try dsimp only) | fail "no step")
  (rename Fr _ _ _ _ => F4)
  (rename News _ _ _ _ => N4)
  have lt3 := news_lt N3
  dsimp only at N4
  dsimp only
  rw [slicePick_upto'] at N4
  have hsl := ne_succ lt3
  clear lt3
  generalize h3.objs.size + 1 = sl at *
  have hA4 : Ap tb td lst (add ++ tail) ((sl, W.listOf (vals.take rr).toArray 0) :: (bd, W.listOf vals.toArray vals.length) :: keep) := hA2.keep ⟨Ne.symm (hsl (76, o1') (by first | (walk_at "mem go") | simp)), Ne.symm (hsl (83, o2') (by first | (walk_at "mem go") | simp)), Ne.symm (hsl (48, o3) (by first | (walk_at "mem go") | simp)), Ne.symm (hsl (lst, W.listOf (hdRefs (hs.filter fun h => !(h.k == k))).toArray e3) (by first | (walk_at "mem go") | simp))⟩ fun q hq => hsl q (by walk_at "mem go")
  k_dflt (refine LpSrc.listM (its := (vals.take rr).toArray) (by rfl) (by rfl) (by rfl) F4 N4 (Str.ofString "full") (fun i nw => ∃ (L1 : List Hd) (ei : Nat) (t1 : List (Addr × Obj)), nw = (sl, W.listOf (vals.take rr).toArray 0) :: (bd, W.listOf vals.toArray vals.length) :: (bl, W.listOf bits eb) :: ((76, o1') :: (83, o2') :: (48, o3) :: (tb, instObj 239 td) :: (td, dictOf [{ hash := PyData.keyHash w.params (Str.ofString "_headers"), key := .str (Str.ofString "_headers") kt, val := .ref lst }] 1) :: (lst, W.listOf (hdRefs (hs.filter (fun h => !(h.k == k)) ++ L1)).toArray ei) :: (t1 ++ ((bd, W.listOf vals.toArray vals.length) :: keep))) ∧ L1.length = i ∧ (∀ h ∈ L1, h.k = k ∧ h.n = wt k) ∧ (∀ q ∈ hdNews (hs.filter (fun h => !(h.k == k)) ++ L1), q ∈ t1) ∧ Ap tb td lst t1 ((sl, W.listOf (vals.take rr).toArray 0) :: (bd, W.listOf vals.toArray vals.length) :: keep) ∧ TSt o1' o2' o3 t1) ?js ?j0 ?tn ?fn)
  case js =>
    rintro i nw ⟨L1, ei, t1, rfl, _⟩
    exact .inr ⟨_, List.mem_cons_self, rfl, _, rfl⟩
  case j0 =>
    refine ⟨[], e3, add ++ tail, by rw [List.append_nil], rfl, (fun h hh => nomatch hh), ?_, hA4, hS2⟩
    intro q hq
    rw [List.append_nil] at hq
    exact List.mem_append_right _ (hsub q (hdNews_filter hq))
  rotate_left
  · intro h6 tk6 dr6 vx vz news' F6 N6 hJ
    obtain ⟨L1, e6, t1, rfl, hL1, hL2, hs1, hA6, hS6⟩ := hJ
    have hL1' : L1.length = rr := by rw [hL1]; simp; omega
    have hA6 := hA6.drop
    dsimp only
    repeat' ((fail_if_success (with_reducible show wpAny _ _ (call (Value.ref 178) _) _ _ _)); (fail_if_success (with_reducible show wpAny _ _ (call (Value.builtin "sum") _) _ _ _)); (fail_if_success (with_reducible show wpAny _ _ (call (Value.type "str") _) _ _ _)); (fail_if_success (with_reducible show wpAny _ _ (call (Value.ref 95) _) _ _ _)); (fail_if_success (with_reducible show wpAny _ _ (call (Value.ref 159) _) _ _ _)); (fail_if_success (with_reducible show wpAny _ _ (call (Value.ref 236) _) _ _ _)); (fail_if_success (with_reducible show wpAny _ _ (call (Value.ref 60) _) _ _ _)); (fail_if_success (with_reducible show LpSrc _ _ _ _ _ _ _ _ _ _ _)); (fail_if_success (with_reducible show CpSrc _ _ _ _ _ _ _ _ _ _ _ _ _ _ _)); first | (k_unfold; (try dsimp only)) | (k_end; wrow_close) | walk1 | (dsimp only; walk1) | (leave1; walk_say "STEP leave1"; try dsimp only) | fail "no step")
    (rename Fr _ _ _ _ => F7)
    (rename News _ _ _ _ => N7)
    have hq31 : q < 32 := by
      have := Nat.mul_le_mul hb0 (Nat.le_refl q)
      omega
    k_dflt (refine LpSrc.rangeM (n := q) (by rfl) (by rfl) (by rfl) F7 (news_sub N7 (l' := (bd, W.listOf vals.toArray vals.length) :: (bl, W.listOf bits eb) :: ((76, o1') :: (83, o2') :: (48, o3) :: (tb, instObj 239 td) :: (td, dictOf [{ hash := PyData.keyHash w.params (Str.ofString "_headers"), key := .str (Str.ofString "_headers") kt, val := .ref lst }] 1) :: (lst, W.listOf (hdRefs (hs.filter (fun h => !(h.k == k)) ++ L1)).toArray e6) :: (t1 ++ ((bd, W.listOf vals.toArray vals.length) :: keep)))) (by walk_at "sub go")) (by assumption) (small_q hq31) (size_q hq31) (Str.ofString "full") (fun i nw => ∃ (L2 : List Hd) (ei : Nat) (t2 : List (Addr × Obj)) (o3' : Obj), nw = (bd, W.listOf vals.toArray vals.length) :: (bl, W.listOf bits eb) :: ((76, o1') :: (83, o2') :: (48, o3') :: (tb, instObj 239 td) :: (td, dictOf [{ hash := PyData.keyHash w.params (Str.ofString "_headers"), key := .str (Str.ofString "_headers") kt, val := .ref lst }] 1) :: (lst, W.listOf (hdRefs (hs.filter (fun h => !(h.k == k)) ++ L1 ++ L2)).toArray ei) :: (t2 ++ ((bd, W.listOf vals.toArray vals.length) :: keep))) ∧ L2.length = i ∧ (∀ h ∈ L2, h.k = k + 1 ∧ h.n = wt (k + 1)) ∧ (∀ q ∈ hdNews (hs.filter (fun h => !(h.k == k)) ++ L1 ++ L2), q ∈ t2) ∧ Ap tb td lst t2 ((bd, W.listOf vals.toArray vals.length) :: keep) ∧ TSt o1' o2' o3' t2) ?jj ?tt ?ff)
    case jj => exact ⟨[], e6, t1, o3, by rw [List.append_nil], rfl, (fun h hh => nomatch hh), by rw [List.append_nil]; exact hs1, hA6, hS6⟩
    case ff =>
      intro h8 tk8 dr8 vx8 vz8 news8 F8 N8 hJ8
      obtain ⟨L2, e8, t2, o3', rfl, hL3, hL4, hs8, hA8, hS8⟩ := hJ8
      dsimp only
      repeat' ((fail_if_success (with_reducible show wpAny _ _ (call (Value.ref 178) _) _ _ _)); (fail_if_success (with_reducible show wpAny _ _ (call (Value.builtin "sum") _) _ _ _)); (fail_if_success (with_reducible show wpAny _ _ (call (Value.type "str") _) _ _ _)); (fail_if_success (with_reducible show wpAny _ _ (call (Value.ref 95) _) _ _ _)); (fail_if_success (with_reducible show wpAny _ _ (call (Value.ref 159) _) _ _ _)); (fail_if_success (with_reducible show wpAny _ _ (call (Value.ref 236) _) _ _ _)); (fail_if_success (with_reducible show wpAny _ _ (call (Value.ref 60) _) _ _ _)); (fail_if_success (with_reducible show LpSrc _ _ _ _ _ _ _ _ _ _ _)); (fail_if_success (with_reducible show CpSrc _ _ _ _ _ _ _ _ _ _ _ _ _ _ _)); first | (k_unfold; (try dsimp only)) | (k_end; wrow_close) | walk1 | (dsimp only; walk1) | (leave1; walk_say "STEP leave1"; try dsimp only) | fail "no step")
      have hdiv : cnt hs k / b = q := by rw [← hcl, ← hqb, Nat.mul_add_div (by omega), Nat.div_eq_of_lt hrb, Nat.add_zero]
      have hmod : cnt hs k % b = rr := by rw [← hcl, ← hqb, Nat.mul_add_mod, Nat.mod_eq_of_lt hrb]
      have hld := len_drop hs k
      have hbq : q ≤ b * q := by have := Nat.mul_le_mul hb0 (Nat.le_refl q); omega
      rw [← hdiv]
      refine hret tv _ e8 o1' o2' o3' t2 _ _ _ (by k_asm) (news_sub (by k_asm) (by walk_at "sub go")) hA8.drop hS8 ?_ hs8 ?_ ?_
      · intro x hx
        rcases List.mem_append.mp hx with hx | hx
        · rcases List.mem_append.mp hx with hx | hx
          · exact hwt x (List.mem_filter.mp hx).1
          · rw [(hL2 x hx).1, (hL2 x hx).2]; exact ⟨by omega, rfl⟩
        · rw [(hL4 x hx).1, (hL4 x hx).2]; exact ⟨by omega, rfl⟩
      · rw [List.length_append, List.length_append]; omega
      · intro j
        rw [cnt_append, cnt_append, cnt_drop, cnt_same (fun x hx => (hL2 x hx).1), cnt_same (fun x hx => (hL4 x hx).1), hdiv, hmod, hL1', hL3]
        by_cases h1 : j = k
        · have h2 : ¬ j = k + 1 := by omega
          simp only [h1, if_true]
          rw [if_neg (by omega)]; omega
        · by_cases h2 : j = k + 1
          · simp only [h2, if_true]
            rw [if_neg (by omega), if_neg (by omega), if_neg (by omega)]; omega
          · rw [if_neg h1, if_neg h1, if_neg h2, if_neg h1, if_neg h2]; omega
    intro I i v vj news₁ oI h tk dr Q' E' hi hP hJ off F8 N8 k8
    obtain ⟨L2, e8, t2, o3', rfl, hL3, hL4, hs8, hA8, hS8⟩ := hJ
    obtain ⟨tj, rfl⟩ := hP
    have hA9 := ap_loop (oI := oI) (front := [_, _]) off hA8
    repeat' ((fail_if_success (with_reducible show wpAny _ _ (call (Value.ref 178) _) _ _ _)); (fail_if_success (with_reducible show wpAny _ _ (call (Value.builtin "sum") _) _ _ _)); (fail_if_success (with_reducible show wpAny _ _ (call (Value.type "str") _) _ _ _)); (fail_if_success (with_reducible show wpAny _ _ (call (Value.ref 95) _) _ _ _)); (fail_if_success (with_reducible show wpAny _ _ (call (Value.ref 159) _) _ _ _)); (fail_if_success (with_reducible show wpAny _ _ (call (Value.ref 236) _) _ _ _)); (fail_if_success (with_reducible show wpAny _ _ (call (Value.ref 60) _) _ _ _)); (fail_if_success (with_reducible show LpSrc _ _ _ _ _ _ _ _ _ _ _)); (fail_if_success (with_reducible show CpSrc _ _ _ _ _ _ _ _ _ _ _ _ _ _ _)); first | (k_unfold; (try dsimp only)) | (k_end; wrow_close) | walk1 | (dsimp only; walk1) | (leave1; walk_say "STEP leave1"; try dsimp only) | fail "no step")
    (rename Fr _ _ _ _ => F9)
    (rename News _ _ _ _ => N9)
    have hfa := ne_succ (news_lt N8)
    obtain ⟨fl, efl, hfl, hfv⟩ := full_are hqb hi hvv
    dsimp only at N9 F9
    dsimp only
    rw [efl] at N9
    generalize h.objs.size + 1 = fa at *
    have hA10 : Ap tb td lst t2 ((fa, W.listOf fl.toArray 0) :: (I, oI) :: (bd, W.listOf vals.toArray vals.length) :: keep) := hA9.keep ⟨Ne.symm (hfa (76, o1') (by first | (walk_at "mem go") | simp)), Ne.symm (hfa (83, o2') (by first | (walk_at "mem go") | simp)), Ne.symm (hfa (48, o3') (by first | (walk_at "mem go") | simp)), Ne.symm (hfa (lst, W.listOf (hdRefs (hs.filter (fun h => !(h.k == k)) ++ L1 ++ L2)).toArray e8) (by first | (walk_at "mem go") | simp))⟩ fun q hq => hfa q (by walk_at "mem go")
    k_dflt (refine CpSrc.list (its := fl.toArray) (by rfl) (by decide) (by rfl) (by rfl) F9 N9 (by rw [sizeLine_eq, List.size_toArray]; omega) (fun i' ys nw => ∃ (t3 : List (Addr × Obj)) (o3'' : Obj), nw = (fa, W.listOf fl.toArray 0) :: (I, oI) :: (bd, W.listOf vals.toArray vals.length) :: (bl, W.listOf bits eb) :: ((76, o1') :: (83, o2') :: (48, o3'') :: (tb, instObj 239 td) :: (td, dictOf [{ hash := PyData.keyHash w.params (Str.ofString "_headers"), key := .str (Str.ofString "_headers") kt, val := .ref lst }] 1) :: (lst, W.listOf (hdRefs (hs.filter (fun h => !(h.k == k)) ++ L1 ++ L2)).toArray e8) :: (t3 ++ ((bd, W.listOf vals.toArray vals.length) :: keep))) ∧ ys.length = i' ∧ (∀ y ∈ ys, ∃ t, y = .int (wt k : Nat) t) ∧ (∀ q ∈ hdNews (hs.filter (fun h => !(h.k == k)) ++ L1 ++ L2), q ∈ t3) ∧ Ap tb td lst t3 ((fa, W.listOf fl.toArray 0) :: (I, oI) :: (bd, W.listOf vals.toArray vals.length) :: keep) ∧ TSt o1' o2' o3'' t3) ?cs ?cl ?c0 ?ct ?cf)
    case cs =>
      rintro i' ys nw ⟨t3, o3'', rfl, _⟩
      exact .inr ⟨_, List.mem_cons_self, rfl, _, rfl⟩
    case cl =>
      rintro i' ys nw ⟨t3, o3'', _, h, _⟩
      omega
    case c0 => exact ⟨t2, o3', rfl, rfl, (fun y hy => nomatch hy), hs8, hA10, hS8⟩
    case ct =>
      intro i' ys news₁ v I2 oI2 C oC D m₂ h tk dr Q' E' hi' hP hJ hC hx F10 N10 off3 ne3 k10
      obtain ⟨t3, o3'', rfl, hys, hyv, hs10, hA11, hS11⟩ := hJ
      have hvm : v ∈ fl := List.mem_of_getElem? (l := fl) (i := i') (a := v) (by simpa using hP)
      obtain ⟨tv', rfl⟩ := hfv v hvm
      have hA12 := ap_comp (oI := oI2) (oC := oC) (oD := PyProof.Rows.LCg.lst ys) (front := [_, _, _, _]) off3 hA11
      repeat' ((fail_if_success (with_reducible show wpAny _ _ (call (Value.ref 178) _) _ _ _)); (fail_if_success (with_reducible show wpAny _ _ (call (Value.builtin "sum") _) _ _ _)); (fail_if_success (with_reducible show wpAny _ _ (call (Value.type "str") _) _ _ _)); (fail_if_success (with_reducible show wpAny _ _ (call (Value.ref 95) _) _ _ _)); (fail_if_success (with_reducible show wpAny _ _ (call (Value.ref 159) _) _ _ _)); (fail_if_success (with_reducible show wpAny _ _ (call (Value.ref 236) _) _ _ _)); (fail_if_success (with_reducible show wpAny _ _ (call (Value.ref 60) _) _ _ _)); (fail_if_success (with_reducible show LpSrc _ _ _ _ _ _ _ _ _ _ _)); (fail_if_success (with_reducible show CpSrc _ _ _ _ _ _ _ _ _ _ _ _ _ _ _)); first | (k_unfold; (try dsimp only)) | (k_end; wrow_close) | walk1 | (dsimp only; walk1) | (leave1; walk_say "STEP leave1"; try dsimp only) | fail "no step")
      k_dflt (refine' d_ifs (its := (hdRefs (hs.filter (fun h => !(h.k == k)) ++ L1 ++ L2)).toArray) (o1 := o1') (o2 := o2') (o3 := o3'') (e := e8) (kt := kt) (tail := t3) (keep := (I2, oI2) :: (C, oC) :: (D, PyProof.Rows.LCg.lst ys) :: (fa, W.listOf fl.toArray 0) :: (I, oI) :: (bd, W.listOf vals.toArray vals.length) :: keep) ?B ?F ?X ?N ?T ?hk hA12 hS11 (hwl k (by omega)) C48 ?hd ?hu ?_; (case B => k_asm); (case F => k_asm); (case X => k_asm); (case T => k_asm); (case hk => exact rfl); (case N => exact news_sub (by k_asm) (by walk_at "sub go")); (case hd => ktr_room); (case hu => ktr_units))
      intro tv11 o4 ad h11 tk11 dr11 F11 N11 hA13 hS13
      dsimp only
      repeat' ((fail_if_success (with_reducible show wpAny _ _ (call (Value.ref 178) _) _ _ _)); (fail_if_success (with_reducible show wpAny _ _ (call (Value.builtin "sum") _) _ _ _)); (fail_if_success (with_reducible show wpAny _ _ (call (Value.type "str") _) _ _ _)); (fail_if_success (with_reducible show wpAny _ _ (call (Value.ref 95) _) _ _ _)); (fail_if_success (with_reducible show wpAny _ _ (call (Value.ref 159) _) _ _ _)); (fail_if_success (with_reducible show wpAny _ _ (call (Value.ref 236) _) _ _ _)); (fail_if_success (with_reducible show wpAny _ _ (call (Value.ref 60) _) _ _ _)); (fail_if_success (with_reducible show LpSrc _ _ _ _ _ _ _ _ _ _ _)); (fail_if_success (with_reducible show CpSrc _ _ _ _ _ _ _ _ _ _ _ _ _ _ _)); first | (k_unfold; (try dsimp only)) | (k_end; wrow_close) | walk1 | (dsimp only; walk1) | (leave1; walk_say "STEP leave1"; try dsimp only) | fail "no step")
      refine k10 _ _ _ _ _ (by k_asm) (news_sub N11 (l' := (I2, oI2) :: (C, oC) :: (D, PyProof.Rows.LCg.lst ys) :: (fa, W.listOf fl.toArray 0) :: (I, oI) :: (bd, W.listOf vals.toArray vals.length) :: (bl, W.listOf bits eb) :: ((76, o1') :: (83, o2') :: (48, o4) :: (tb, instObj 239 td) :: (td, dictOf [{ hash := PyData.keyHash w.params (Str.ofString "_headers"), key := .str (Str.ofString "_headers") kt, val := .ref lst }] 1) :: (lst, W.listOf (hdRefs (hs.filter (fun h => !(h.k == k)) ++ L1 ++ L2)).toArray e8) :: ((ad ++ t3) ++ ((bd, W.listOf vals.toArray vals.length) :: keep)))) ?_) (off_comp (front := [_, _, _, _]) off3 hA13) ⟨ad ++ t3, o4, rfl, by simp [hys], ?_, fun q hq => List.mem_append_right _ (hs10 q hq), hA13.drop.drop.drop, hS13⟩
      · walk_at "sub go"
      · intro y hy
        rcases List.mem_append.mp hy with hy | hy
        · exact hyv y hy
        · rw [List.mem_singleton.mp hy]; exact ⟨_, rfl⟩
    case cf =>
      intro D ys h12 tk12 dr12 news12 F12 N12 off12 hJ12
      obtain ⟨t3, o3'', rfl, hys, hyv, hs10, hA11, hS11⟩ := hJ12
      repeat' ((fail_if_success (with_reducible show wpAny _ _ (call (Value.ref 178) _) _ _ _)); (fail_if_success (with_reducible show wpAny _ _ (call (Value.builtin "sum") _) _ _ _)); (fail_if_success (with_reducible show wpAny _ _ (call (Value.type "str") _) _ _ _)); (fail_if_success (with_reducible show wpAny _ _ (call (Value.ref 95) _) _ _ _)); (fail_if_success (with_reducible show wpAny _ _ (call (Value.ref 159) _) _ _ _)); (fail_if_success (with_reducible show wpAny _ _ (call (Value.ref 236) _) _ _ _)); (fail_if_success (with_reducible show wpAny _ _ (call (Value.ref 60) _) _ _ _)); (fail_if_success (with_reducible show LpSrc _ _ _ _ _ _ _ _ _ _ _)); (fail_if_success (with_reducible show CpSrc _ _ _ _ _ _ _ _ _ _ _ _ _ _ _)); first | (k_unfold; (try dsimp only)) | (k_end; wrow_close) | walk1 | (dsimp only; walk1) | (leave1; walk_say "STEP leave1"; try dsimp only) | fail "no step")
      k_dflt (refine PyProof.Rows.LSm.sum_ints F12 N12 (by rfl) (News.isList N12 List.mem_cons_self) (ints_same hyv) ?_)
      intro h13 tk13 t13 F13 N13
      have hys' : ys.length = b := by rw [hys, List.size_toArray]; exact hfl
      rw [sum_same, hys', show ((b : Nat) : Int) * ((wt k : Nat) : Int) = ((wt (k + 1) : Nat) : Int) by rw [hw1, Int.natCast_mul, Int.mul_comm]]
      dsimp only
      repeat' ((fail_if_success (with_reducible show wpAny _ _ (call (Value.ref 178) _) _ _ _)); (fail_if_success (with_reducible show wpAny _ _ (call (Value.builtin "sum") _) _ _ _)); (fail_if_success (with_reducible show wpAny _ _ (call (Value.type "str") _) _ _ _)); (fail_if_success (with_reducible show wpAny _ _ (call (Value.ref 95) _) _ _ _)); (fail_if_success (with_reducible show wpAny _ _ (call (Value.ref 159) _) _ _ _)); (fail_if_success (with_reducible show wpAny _ _ (call (Value.ref 236) _) _ _ _)); (fail_if_success (with_reducible show wpAny _ _ (call (Value.ref 60) _) _ _ _)); (fail_if_success (with_reducible show LpSrc _ _ _ _ _ _ _ _ _ _ _)); (fail_if_success (with_reducible show CpSrc _ _ _ _ _ _ _ _ _ _ _ _ _ _ _)); first | (k_unfold; (try dsimp only)) | (k_end; wrow_close) | walk1 | (dsimp only; walk1) | (leave1; walk_say "STEP leave1"; try dsimp only) | fail "no step")
      refine str_num (hwl (k + 1) (by omega)) ?_
      repeat' ((fail_if_success (with_reducible show wpAny _ _ (call (Value.ref 178) _) _ _ _)); (fail_if_success (with_reducible show wpAny _ _ (call (Value.builtin "sum") _) _ _ _)); (fail_if_success (with_reducible show wpAny _ _ (call (Value.type "str") _) _ _ _)); (fail_if_success (with_reducible show wpAny _ _ (call (Value.ref 95) _) _ _ _)); (fail_if_success (with_reducible show wpAny _ _ (call (Value.ref 159) _) _ _ _)); (fail_if_success (with_reducible show wpAny _ _ (call (Value.ref 236) _) _ _ _)); (fail_if_success (with_reducible show wpAny _ _ (call (Value.ref 60) _) _ _ _)); (fail_if_success (with_reducible show LpSrc _ _ _ _ _ _ _ _ _ _ _)); (fail_if_success (with_reducible show CpSrc _ _ _ _ _ _ _ _ _ _ _ _ _ _ _)); first | (k_unfold; (try dsimp only)) | (k_end; wrow_close) | walk1 | (dsimp only; walk1) | (leave1; walk_say "STEP leave1"; try dsimp only) | fail "no step")
      rw [item_nx hk4]
      have hA14 : Ap tb td lst t3 ((D, PyProof.Rows.LCg.lst ys) :: (fa, W.listOf fl.toArray 0) :: (I, oI) :: (bd, W.listOf vals.toArray vals.length) :: keep) := ap_loop (front := [_, _, _, _]) off12 hA11
      have hl1f := List.length_filter_le (fun h : Hd => !(h.k == k)) hs
      have hiq : i < 32 := by omega
      k_dflt (refine' d_add (hs := hs.filter (fun h => !(h.k == k)) ++ L1 ++ L2) (o1 := o1') (o2 := o2') (o3 := o3'') (e := e8) (kt := kt) (tail := t3) (keep := (D, PyProof.Rows.LCg.lst ys) :: (fa, W.listOf fl.toArray 0) :: (I, oI) :: (bd, W.listOf vals.toArray vals.length) :: keep) ?B ?F ?X ?N ?T ?hk hA14 ?hk5 (hwl (k + 1) (by omega)) ?hsz ?hd ?hu ?_; (case B => k_asm); (case F => k_asm); (case X => k_asm); (case T => k_asm); (case hk => exact rfl); (case N => exact news_sub (by k_asm) (by walk_at "sub go")); (case hk5 => omega); (case hsz => (rw [List.length_append, List.length_append]; omega)); (case hd => ktr_room); (case hu => ktr_units))
      intro hh e14 h14 tk14 hhk hhn F14 N14 hA15
      dsimp only
      repeat' ((fail_if_success (with_reducible show wpAny _ _ (call (Value.ref 178) _) _ _ _)); (fail_if_success (with_reducible show wpAny _ _ (call (Value.builtin "sum") _) _ _ _)); (fail_if_success (with_reducible show wpAny _ _ (call (Value.type "str") _) _ _ _)); (fail_if_success (with_reducible show wpAny _ _ (call (Value.ref 95) _) _ _ _)); (fail_if_success (with_reducible show wpAny _ _ (call (Value.ref 159) _) _ _ _)); (fail_if_success (with_reducible show wpAny _ _ (call (Value.ref 236) _) _ _ _)); (fail_if_success (with_reducible show wpAny _ _ (call (Value.ref 60) _) _ _ _)); (fail_if_success (with_reducible show LpSrc _ _ _ _ _ _ _ _ _ _ _)); (fail_if_success (with_reducible show CpSrc _ _ _ _ _ _ _ _ _ _ _ _ _ _ _)); first | (k_unfold; (try dsimp only)) | (k_end; wrow_close) | walk1 | (dsimp only; walk1) | (leave1; walk_say "STEP leave1"; try dsimp only) | fail "no step")
      have hA16 : Ap tb td lst ((hh.a, hdObj hh) :: t3) ((I, oI) :: (bd, W.listOf vals.toArray vals.length) :: keep) := hA15.drop.drop
      refine k8 _ _ _ (some (.int (0 + (i : Int)) tj)) (some (.ref fa)) _ (fr_congr (by k_asm) ?_) (news_sub (by k_asm) (l' := (I, oI) :: (bd, W.listOf vals.toArray vals.length) :: (bl, W.listOf bits eb) :: ((76, o1') :: (83, o2') :: (48, o3'') :: (tb, instObj 239 td) :: (td, dictOf [{ hash := PyData.keyHash w.params (Str.ofString "_headers"), key := .str (Str.ofString "_headers") kt, val := .ref lst }] 1) :: (lst, W.listOf (hdRefs (hs.filter (fun h => !(h.k == k)) ++ L1 ++ (L2 ++ [hh]))).toArray e14) :: (((hh.a, hdObj hh) :: t3) ++ ((bd, W.listOf vals.toArray vals.length) :: keep)))) ?_) (off_led (front := [_, _]) off hA16) ⟨L2 ++ [hh], e14, (hh.a, hdObj hh) :: t3, o3'', rfl, by simp [hL3], ?_, ?_, hA16.drop, hS11.cons⟩
      · intro y
        by_cases hy1 : y = Str.ofString "full"
        · by_cases hy2 : y = Str.ofString "j"
          · rw [hy1] at hy2; exact absurd hy2 (by decide)
          · simp only [hy1, if_true]; rfl
        · by_cases hy2 : y = Str.ofString "j"
          · simp only [hy2, if_true]; rfl
          · simp only [hy1, hy2, if_false]
      · rw [← List.append_assoc]
        walk_at "sub go"
      · intro x hx
        rcases List.mem_append.mp hx with hx | hx
        · exact hL4 x hx
        · rw [List.mem_singleton.mp hx]; exact ⟨hhk, hhn⟩
      · intro x hx
        rw [← List.append_assoc, hdNews, List.map_append] at hx
        rcases List.mem_append.mp hx with hx | hx
        · exact List.mem_cons_of_mem _ (hs10 x hx)
        · rw [List.map_singleton] at hx
          rw [List.mem_singleton.mp hx]
          exact List.mem_cons_self
  intro I i v vz news₁ oI h tk dr Q' E' hi hP hJ off F5 N5 k5
  obtain ⟨L1, ei, t1, rfl, hL1, hL2, hs5, hA5, hS5⟩ := hJ
  have hvm : v ∈ vals := List.mem_of_mem_take (by have := List.mem_of_getElem? (l := vals.take rr) (i := i) (a := v) (by simpa using hP); exact this)
  obtain ⟨tv', rfl⟩ := hvv v hvm
  have hA6 := ap_loop (oI := oI) (front := [_, _, _]) off hA5
  have hi' : i < rr := by simpa using Nat.lt_of_lt_of_le hi (by simp; omega)
  repeat' ((fail_if_success (with_reducible show wpAny _ _ (call (Value.ref 178) _) _ _ _)); (fail_if_success (with_reducible show wpAny _ _ (call (Value.builtin "sum") _) _ _ _)); (fail_if_success (with_reducible show wpAny _ _ (call (Value.type "str") _) _ _ _)); (fail_if_success (with_reducible show wpAny _ _ (call (Value.ref 95) _) _ _ _)); (fail_if_success (with_reducible show wpAny _ _ (call (Value.ref 159) _) _ _ _)); (fail_if_success (with_reducible show wpAny _ _ (call (Value.ref 236) _) _ _ _)); (fail_if_success (with_reducible show wpAny _ _ (call (Value.ref 60) _) _ _ _)); (fail_if_success (with_reducible show LpSrc _ _ _ _ _ _ _ _ _ _ _)); (fail_if_success (with_reducible show CpSrc _ _ _ _ _ _ _ _ _ _ _ _ _ _ _)); first | (k_unfold; (try dsimp only)) | (k_end; wrow_close) | walk1 | (dsimp only; walk1) | (leave1; walk_say "STEP leave1"; try dsimp only) | fail "no step")
  rw [item_lo hk4]
  k_dflt (refine' d_add (hs := hs.filter (fun h => !(h.k == k)) ++ L1) (o1 := o1') (o2 := o2') (o3 := o3) (e := ei) (kt := kt) (tail := t1) (keep := (I, oI) :: (sl, W.listOf (vals.take rr).toArray 0) :: (bd, W.listOf vals.toArray vals.length) :: keep) ?B ?F ?X ?N ?T ?hk hA6 ?hk5 (hwl k (by omega)) ?hsz ?hd ?hu ?_; (case B => k_asm); (case F => k_asm); (case X => k_asm); (case T => k_asm); (case hk => exact rfl); (case N => exact news_sub (by k_asm) (by walk_at "sub go")); (case hk5 => omega); (case hsz => (have hfl := List.length_filter_le (fun h : Hd => !(h.k == k)) hs; rw [List.length_append]; omega)); (case hd => ktr_room); (case hu => ktr_units))
  intro hh e6 h6 tk6 hhk hhn F6 N6 hA7
  dsimp only
  repeat' ((fail_if_success (with_reducible show wpAny _ _ (call (Value.ref 178) _) _ _ _)); (fail_if_success (with_reducible show wpAny _ _ (call (Value.builtin "sum") _) _ _ _)); (fail_if_success (with_reducible show wpAny _ _ (call (Value.type "str") _) _ _ _)); (fail_if_success (with_reducible show wpAny _ _ (call (Value.ref 95) _) _ _ _)); (fail_if_success (with_reducible show wpAny _ _ (call (Value.ref 159) _) _ _ _)); (fail_if_success (with_reducible show wpAny _ _ (call (Value.ref 236) _) _ _ _)); (fail_if_success (with_reducible show wpAny _ _ (call (Value.ref 60) _) _ _ _)); (fail_if_success (with_reducible show LpSrc _ _ _ _ _ _ _ _ _ _ _)); (fail_if_success (with_reducible show CpSrc _ _ _ _ _ _ _ _ _ _ _ _ _ _ _)); first | (k_unfold; (try dsimp only)) | (k_end; wrow_close) | walk1 | (dsimp only; walk1) | (leave1; walk_say "STEP leave1"; try dsimp only) | fail "no step")
  refine k5 _ _ _ _ _ _ (by k_asm) (news_sub (by k_asm) (l' := (I, oI) :: (sl, W.listOf (vals.take rr).toArray 0) :: (bd, W.listOf vals.toArray vals.length) :: (bl, W.listOf bits eb) :: ((76, o1') :: (83, o2') :: (48, o3) :: (tb, instObj 239 td) :: (td, dictOf [{ hash := PyData.keyHash w.params (Str.ofString "_headers"), key := .str (Str.ofString "_headers") kt, val := .ref lst }] 1) :: (lst, W.listOf (hdRefs (hs.filter (fun h => !(h.k == k)) ++ (L1 ++ [hh]))).toArray e6) :: (((hh.a, hdObj hh) :: t1) ++ ((bd, W.listOf vals.toArray vals.length) :: keep)))) ?_) (off_led (front := [_, _, _]) off hA7) ⟨L1 ++ [hh], e6, (hh.a, hdObj hh) :: t1, rfl, by simp [hL1], ?_, ?_, hA7.drop, hS5.cons⟩
  · rw [← List.append_assoc]
    walk_at "sub go"
  · intro x hx
    rcases List.mem_append.mp hx with hx | hx
    · exact hL2 x hx
    · rw [List.mem_singleton.mp hx]; exact ⟨hhk, hhn⟩
  · intro x hx
    rw [← List.append_assoc, hdNews, List.map_append] at hx
    rcases List.mem_append.mp hx with hx | hx
    · exact List.mem_cons_of_mem _ (hs5 x hx)
    · rw [List.map_singleton] at hx
      rw [List.mem_singleton.mp hx]
      exact List.mem_cons_self
end
end PartC12
section PartPl
/-! the plain law: counts at the places, bases, what went up -/
def went (mv : List (Nat × Nat)) (k : Nat) : Nat := ((mv.filter fun p => p.1 == k).map (·.2)).sum
theorem went_snoc (mv : List (Nat × Nat)) (k q j : Nat) : went (mv ++ [(k, q)]) j = if j = k then went mv j + q else went mv j := by
  unfold went
  rw [List.filter_append, List.map_append, List.sum_append]
  by_cases h : j = k
  · subst h; simp
  · rw [if_neg h, List.filter_cons_of_neg (by simp; exact fun e => h e.symm)]; simp
theorem count_snoc (l : List Nat) (p j : Nat) : (l ++ [p]).count j = if j = p then l.count j + 1 else l.count j := by
  rw [List.count_append]
  by_cases h : j = p
  · subst h; simp
  · rw [if_neg h, List.count_singleton, if_neg (by simp; exact fun e => h e.symm)]; rfl
/-- what was laid at a place and what came up to it is what stands there and what went up from it -/
def Inv (b c : Nat → Nat) (l : List Nat) (mv : List (Nat × Nat)) : Prop :=
  (c 0 + b 0 * went mv 0 = l.count 0) ∧ (c 1 + b 1 * went mv 1 = l.count 1 + went mv 0) ∧ (c 2 + b 2 * went mv 2 = l.count 2 + went mv 1) ∧ (c 3 + b 3 * went mv 3 = l.count 3 + went mv 2) ∧ c 4 = l.count 4 + went mv 3
theorem Inv.start (b : Nat → Nat) {c : Nat → Nat} (hc : ∀ j, c j = 0) : Inv b c [] [] := by
  simp [Inv, went, hc]
theorem Inv.lay {b c c' : Nat → Nat} {l : List Nat} {mv : List (Nat × Nat)} {p : Nat} (h : Inv b c l mv) (hp : p < 5) (hc : ∀ j, c' j = if j = p then c j + 1 else c j) : Inv b c' (l ++ [p]) mv := by
  obtain ⟨h0, h1, h2, h3, h4⟩ := h
  have : p = 0 ∨ p = 1 ∨ p = 2 ∨ p = 3 ∨ p = 4 := by omega
  simp only [Inv, hc, count_snoc]
  rcases this with rfl | rfl | rfl | rfl | rfl <;> simp <;> omega
theorem Inv.carry {b c c' : Nat → Nat} {l : List Nat} {mv : List (Nat × Nat)} {k : Nat} (h : Inv b c l mv) (hk : k < 4)
    (hc : ∀ j, c' j = if j = k then c k % b k else if j = k + 1 then c (k + 1) + c k / b k else c j) : Inv b c' l (mv ++ [(k, c k / b k)]) := by
  obtain ⟨h0, h1, h2, h3, h4⟩ := h
  have : k = 0 ∨ k = 1 ∨ k = 2 ∨ k = 3 := by omega
  have hd := Nat.div_add_mod (c k) (b k)
  simp only [Inv, hc, went_snoc]
  rcases this with rfl | rfl | rfl | rfl <;> simp [Nat.mul_add] <;> omega
/-- the lowest n places are carried -/
def Lo (b c : Nat → Nat) (n : Nat) : Prop := ∀ k < n, k < 4 → c k < b k
theorem Lo.carry {b c c' : Nat → Nat} {k n : Nat} (h : Lo b c n) (hk : k < 4) (hb : 2 ≤ b k)
    (hc : ∀ j, c' j = if j = k then c k % b k else if j = k + 1 then c (k + 1) + c k / b k else c j) : Lo b c' n := by
  intro j hj hj4
  rw [hc]
  split
  · rename j = k => e; subst e; exact Nat.mod_lt _ (by omega)
  · split
    · rename j = k + 1 => e
      have h1 := h k (by omega) hk
      rw [Nat.div_eq_of_lt h1, ← e]; exact h j hj hj4
    · exact h j hj hj4
theorem Lo.next {b c c' : Nat → Nat} {n : Nat} (h : Lo b c n) (hk : n < 4) (hb : 2 ≤ b n)
    (hc : ∀ j, c' j = if j = n then c n % b n else if j = n + 1 then c (n + 1) + c n / b n else c j) : Lo b c' (n + 1) := by
  intro j hj hj4
  by_cases e : j = n
  · subst e; rw [hc, if_pos rfl]; exact Nat.mod_lt _ (by omega)
  · rw [hc, if_neg e, if_neg (by omega)]; exact h j (by omega) hj4
/-- what is left of the sum at each place -/
def restOf (b c : Nat → Nat) (k : Nat) : Nat :=
  if k = 0 then c 0 + b 0 * (c 1 + b 1 * (c 2 + b 2 * (c 3 + b 3 * c 4))) else if k = 1 then c 1 + b 1 * (c 2 + b 2 * (c 3 + b 3 * c 4)) else if k = 2 then c 2 + b 2 * (c 3 + b 3 * c 4) else if k = 3 then c 3 + b 3 * c 4 else c 4
theorem restOf_step (b c : Nat → Nat) {k : Nat} (hk : k < 4) : restOf b c k = c k + b k * restOf b c (k + 1) := by
  have : k = 0 ∨ k = 1 ∨ k = 2 ∨ k = 3 := by omega
  rcases this with rfl | rfl | rfl | rfl <;> rfl
theorem restOf_mod {b c : Nat → Nat} {k : Nat} (hk : k < 4) (h : Lo b c 4) : restOf b c k % b k = c k := by
  rw [restOf_step b c hk, Nat.add_mul_mod_self_left, Nat.mod_eq_of_lt (h k hk hk)]
theorem restOf_div {b c : Nat → Nat} {k : Nat} (hk : k < 4) (hb : 2 ≤ b k) (h : Lo b c 4) : restOf b c k / b k = restOf b c (k + 1) := by
  rw [restOf_step b c hk, Nat.add_mul_div_left _ _ (by omega), Nat.div_eq_of_lt (h k hk hk), Nat.zero_add]
def cameOf (mv : List (Nat × Nat)) (k : Nat) : Nat := if k = 0 then 0 else went mv (k - 1)
theorem went_is {b c : Nat → Nat} {l : List Nat} {mv : List (Nat × Nat)} {k : Nat} (h : Inv b c l mv) (hk : k < 4) (hb : 2 ≤ b k) (hl : Lo b c 4) : went mv k = (l.count k + cameOf mv k) / b k := by
  have e : c k + b k * went mv k = l.count k + cameOf mv k := by
    obtain ⟨h0, h1, h2, h3, h4⟩ := h
    have : k = 0 ∨ k = 1 ∨ k = 2 ∨ k = 3 := by omega
    rcases this with rfl | rfl | rfl | rfl <;> simp [cameOf] <;> omega
  rw [← e, Nat.add_mul_div_left _ _ (by omega), Nat.div_eq_of_lt (hl k hk hk), Nat.zero_add]
theorem sum_counts {wt : Nat → Nat} : ∀ {l : List Nat}, (∀ p ∈ l, p < 5) → (l.map wt).sum = wt 0 * l.count 0 + (wt 1 * l.count 1 + (wt 2 * l.count 2 + (wt 3 * l.count 3 + wt 4 * l.count 4)))
  | [], _ => by simp
  | p :: r, h => by
    have ih := sum_counts (wt := wt) (l := r) fun q hq => h q (List.mem_cons_of_mem _ hq)
    have hp := h p List.mem_cons_self
    have : p = 0 ∨ p = 1 ∨ p = 2 ∨ p = 3 ∨ p = 4 := by omega
    rw [List.map_cons, List.sum_cons, ih]
    rcases this with rfl | rfl | rfl | rfl | rfl <;> simp [List.count_cons, Nat.mul_add] <;> omega
theorem sum_is {b c wt : Nat → Nat} {l : List Nat} {mv : List (Nat × Nat)} (h : Inv b c l mv) (hl : ∀ p ∈ l, p < 5) (h0 : wt 0 = 1) (hw : ∀ k < 4, wt (k + 1) = wt k * b k) : (l.map wt).sum = restOf b c 0 := by
  obtain ⟨e0, e1, e2, e3, e4⟩ := h
  rw [sum_counts hl, ← e0]
  have w1 : wt 1 = b 0 := by rw [hw 0 (by omega), h0, Nat.one_mul]
  have w2 : wt 2 = b 0 * b 1 := by rw [hw 1 (by omega), w1]
  have w3 : wt 3 = b 0 * b 1 * b 2 := by rw [hw 2 (by omega), w2]
  have w4 : wt 4 = b 0 * b 1 * b 2 * b 3 := by rw [hw 3 (by omega), w3]
  rw [h0, w1, w2, w3, w4]
  show _ = c 0 + b 0 * (c 1 + b 1 * (c 2 + b 2 * (c 3 + b 3 * c 4)))
  rw [Nat.one_mul, Nat.add_assoc, show b 0 * b 1 * b 2 * b 3 = b 0 * (b 1 * (b 2 * b 3)) by simp only [Nat.mul_assoc], show b 0 * b 1 * b 2 = b 0 * (b 1 * b 2) by simp only [Nat.mul_assoc]]
  simp only [Nat.mul_assoc]
  rw [← Nat.mul_add, ← Nat.mul_add, ← Nat.mul_add, ← Nat.mul_add]
  congr 2
  have f3 : b 3 * c 4 = b 3 * l.count 4 + b 3 * went mv 3 := by rw [e4, Nat.mul_add]
  have f2 : c 3 + b 3 * c 4 = l.count 3 + b 3 * l.count 4 + went mv 2 := by omega
  have f1 : c 2 + b 2 * (c 3 + b 3 * c 4) = l.count 2 + b 2 * (l.count 3 + b 3 * l.count 4) + went mv 1 := by rw [f2, Nat.mul_add]; omega
  have f0 : c 1 + b 1 * (c 2 + b 2 * (c 3 + b 3 * c 4)) = l.count 1 + b 1 * (l.count 2 + b 2 * (l.count 3 + b 3 * l.count 4)) + went mv 0 := by rw [f1, Nat.mul_add]; omega
  rw [f0, Nat.mul_add (b 2), Nat.mul_add (b 1)]
  simp only [Nat.mul_add]
  omega
end PartPl
section PartLw
def lastDef : List Stmt → Option (List Stmt × Scope)
  | [] => none
  | .FunctionDef _ _ body _ _ _ scope _ _ _ :: r => match r with
    | [] => some (body, scope)
    | _ => lastDef r
  | _ :: r => lastDef r
def lawBody : List Stmt := ((lastDef Challenge.pw_ny0343_01.main.body).getD ([], default)).1
def lawScope : Scope := ((lastDef Challenge.pw_ny0343_01.main.body).getD ([], default)).2
def lawPart (n : Nat) : List Stmt := lawBody.drop n
/-- the bases and the worths, and the lists that hold them -/
structure Five (b wt : Nat → Nat) (bits wits : Array Value) : Prop where
  hb0 : ∀ k < 4, 2 ≤ b k
  hb1 : ∀ k < 4, b k ≤ 5
  hbit : ∀ k < 4, ∃ u, bits[k]? = some (.int (b k : Nat) u)
  hw0 : wt 0 = 1
  hw : ∀ k < 4, wt (k + 1) = wt k * b k
  hwit : ∀ k < 5, ∃ u, wits[k]? = some (.int (wt k : Nat) u)
  hwl : ∀ k < 5, wt k ∈ worthList
/-- a move: the pair's address, the place, how many went up -/
structure Mv where
  a : Addr
  k : Nat
  n : Nat
  tk : Tok
  tn : Tok
def mvObj (h : Mv) : Obj := { cls := .type "tuple", data := .seq #[.int (h.k : Nat) h.tk, .int (h.n : Nat) h.tn] 0 }
def mvNews (hs : List Mv) : List (Addr × Obj) := hs.map fun h => (h.a, mvObj h)
def mvRefs (hs : List Mv) : List Value := hs.map fun h => .ref h.a
def mvPairs (hs : List Mv) : List (Nat × Nat) := hs.map fun h => (h.k, h.n)
/-- the three that the law itself changes lie apart from each other and from the rest -/
def D3 (tb td ck ld mv : Addr) (K2 : List (Addr × Obj)) : Prop :=
  ((@Ne Nat ck ld) ∧ (@Ne Nat ck mv) ∧ (@Ne Nat ld mv) ∧ (@Ne Nat tb ck) ∧ (@Ne Nat tb ld) ∧ (@Ne Nat tb mv) ∧ (@Ne Nat td ck) ∧ (@Ne Nat td ld) ∧ (@Ne Nat td mv)) ∧
  ∀ p ∈ K2, (@Ne Nat p.1 ck) ∧ (@Ne Nat p.1 ld) ∧ (@Ne Nat p.1 mv)
theorem D3.cons {tb td ck ld mv : Addr} {K2 : List (Addr × Obj)} {q : Addr × Obj} (h : D3 tb td ck ld mv K2) (h1 : (@Ne Nat q.1 ck) ∧ (@Ne Nat q.1 ld) ∧ (@Ne Nat q.1 mv)) : D3 tb td ck ld mv (q :: K2) :=
  ⟨h.1, fun p hp => by
    rcases List.mem_cons.mp hp with rfl | hp
    · exact h1
    · exact h.2 p hp⟩
theorem D3.sub {tb td ck ld mv : Addr} {K2 K3 : List (Addr × Obj)} (h : D3 tb td ck ld mv K2) (hs : ∀ p ∈ K3, p ∈ K2) : D3 tb td ck ld mv K3 := ⟨h.1, fun p hp => h.2 p (hs p hp)⟩
end PartLw
section PartLx
open PyProof.Rows.LCg
section
variable {tb td lst ck ld mv : Addr} {o1 o2 o3 x1 x2 x3 oc ol om oc' ol' om' : Obj} {tail K2 : List (Addr × Obj)}
theorem ne_ck (hA : Ap tb td lst tail ((ck, oc) :: (ld, ol) :: (mv, om) :: K2)) (hD : D3 tb td ck ld mv K2) : ∀ p ∈ (76, o1) :: (83, o2) :: (48, o3) :: (tb, x1) :: (td, x2) :: (lst, x3) :: (tail ++ ((ld, ol') :: (mv, om') :: K2)), p.1 ≠ ck := fun p hp => by
  have h1 := hA.2.2.1 (ck, oc) (by first | (walk_at "mem go") | simp)
  have h2 := hD.1
  simp only [List.mem_append, List.mem_cons] at hp
  rcases hp with rfl | rfl | rfl | rfl | rfl | rfl | hp | rfl | rfl | hp
  · exact Ne.symm h1.1
  · exact Ne.symm h1.2.1
  · exact Ne.symm h1.2.2.1
  · exact h2.2.2.2.1
  · exact h2.2.2.2.2.2.2.1
  · exact Ne.symm h1.2.2.2
  · exact hA.2.2.2 p hp (ck, oc) (by first | (walk_at "mem go") | simp)
  · exact Ne.symm h2.1
  · exact Ne.symm h2.2.1
  · exact (hD.2 p hp).1
theorem ne_ld (hA : Ap tb td lst tail ((ck, oc) :: (ld, ol) :: (mv, om) :: K2)) (hD : D3 tb td ck ld mv K2) : ∀ p ∈ (76, o1) :: (83, o2) :: (48, o3) :: (tb, x1) :: (td, x2) :: (lst, x3) :: (tail ++ ((ck, oc') :: (mv, om') :: K2)), p.1 ≠ ld := fun p hp => by
  have h1 := hA.2.2.1 (ld, ol) (by first | (walk_at "mem go") | simp)
  have h2 := hD.1
  simp only [List.mem_append, List.mem_cons] at hp
  rcases hp with rfl | rfl | rfl | rfl | rfl | rfl | hp | rfl | rfl | hp
  · exact Ne.symm h1.1
  · exact Ne.symm h1.2.1
  · exact Ne.symm h1.2.2.1
  · exact h2.2.2.2.2.1
  · exact h2.2.2.2.2.2.2.2.1
  · exact Ne.symm h1.2.2.2
  · exact hA.2.2.2 p hp (ld, ol) (by first | (walk_at "mem go") | simp)
  · exact h2.1
  · exact Ne.symm h2.2.2.1
  · exact (hD.2 p hp).2.1
theorem ne_mv (hA : Ap tb td lst tail ((ck, oc) :: (ld, ol) :: (mv, om) :: K2)) (hD : D3 tb td ck ld mv K2) : ∀ p ∈ (76, o1) :: (83, o2) :: (48, o3) :: (tb, x1) :: (td, x2) :: (lst, x3) :: (tail ++ ((ck, oc') :: (ld, ol') :: K2)), p.1 ≠ mv := fun p hp => by
  have h1 := hA.2.2.1 (mv, om) (by first | (walk_at "mem go") | simp)
  have h2 := hD.1
  simp only [List.mem_append, List.mem_cons] at hp
  rcases hp with rfl | rfl | rfl | rfl | rfl | rfl | hp | rfl | rfl | hp
  · exact Ne.symm h1.1
  · exact Ne.symm h1.2.1
  · exact Ne.symm h1.2.2.1
  · exact h2.2.2.2.2.2.1
  · exact h2.2.2.2.2.2.2.2.2
  · exact Ne.symm h1.2.2.2
  · exact hA.2.2.2 p hp (mv, om) (by first | (walk_at "mem go") | simp)
  · exact h2.2.1
  · exact h2.2.2.1
  · exact (hD.2 p hp).2.2
/-- the objects of the three may change -/
theorem Ap.three (hA : Ap tb td lst tail ((ck, oc) :: (ld, ol) :: (mv, om) :: K2)) : Ap tb td lst tail ((ck, oc') :: (ld, ol') :: (mv, om') :: K2) := by
  refine ⟨hA.1, hA.2.1, fun p hp => ?_, fun p hp q hq => ?_⟩
  · simp only [List.mem_cons] at hp
    rcases hp with rfl | rfl | rfl | hp
    · exact hA.2.2.1 (ck, oc) (by first | (walk_at "mem go") | simp)
    · exact hA.2.2.1 (ld, ol) (by first | (walk_at "mem go") | simp)
    · exact hA.2.2.1 (mv, om) (by first | (walk_at "mem go") | simp)
    · exact hA.2.2.1 p (by first | (walk_at "mem go") | simp [hp])
  · simp only [List.mem_cons] at hq
    rcases hq with rfl | rfl | rfl | hq
    · exact hA.2.2.2 p hp (ck, oc) (by first | (walk_at "mem go") | simp)
    · exact hA.2.2.2 p hp (ld, ol) (by first | (walk_at "mem go") | simp)
    · exact hA.2.2.2 p hp (mv, om) (by first | (walk_at "mem go") | simp)
    · exact hA.2.2.2 p hp q (by first | (walk_at "mem go") | simp [hq])
/-- a new thing put at the fourth place of what is kept -/
theorem Ap.into {x : Addr} {o : Obj} (hA : Ap tb td lst tail ((ck, oc) :: (ld, ol) :: (mv, om) :: K2)) (h1 : (@Ne Nat x 76) ∧ (@Ne Nat x 83) ∧ (@Ne Nat x 48) ∧ (@Ne Nat x lst)) (h2 : ∀ q ∈ tail, @Ne Nat q.1 x) : Ap tb td lst tail ((ck, oc) :: (ld, ol) :: (mv, om) :: (x, o) :: K2) := by
  refine ⟨hA.1, hA.2.1, fun p hp => ?_, fun p hp q hq => ?_⟩
  · simp only [List.mem_cons] at hp
    rcases hp with rfl | rfl | rfl | rfl | hp
    · exact hA.2.2.1 (ck, oc) (by first | (walk_at "mem go") | simp)
    · exact hA.2.2.1 (ld, ol) (by first | (walk_at "mem go") | simp)
    · exact hA.2.2.1 (mv, om) (by first | (walk_at "mem go") | simp)
    · exact h1
    · exact hA.2.2.1 p (by first | (walk_at "mem go") | simp [hp])
  · simp only [List.mem_cons] at hq
    rcases hq with rfl | rfl | rfl | rfl | hq
    · exact hA.2.2.2 p hp (ck, oc) (by first | (walk_at "mem go") | simp)
    · exact hA.2.2.2 p hp (ld, ol) (by first | (walk_at "mem go") | simp)
    · exact hA.2.2.2 p hp (mv, om) (by first | (walk_at "mem go") | simp)
    · exact h2 p hp
    · exact hA.2.2.2 p hp q (by first | (walk_at "mem go") | simp [hq])
theorem Ap.sub {keep keep' : List (Addr × Obj)} (hA : Ap tb td lst tail keep) (h : ∀ p ∈ keep', p ∈ keep) : Ap tb td lst tail keep' :=
  ⟨hA.1, hA.2.1, fun p hp => hA.2.2.1 p (h p hp), fun p hp q hq => hA.2.2.2 p hp q (h q hq)⟩
/-- the loop's iterator goes in with what is kept -/
theorem in_loop {I : Addr} {oI : Obj} (off : ∀ p ∈ (76, o1) :: (83, o2) :: (48, o3) :: (tb, x1) :: (td, x2) :: (lst, x3) :: (tail ++ ((ck, oc) :: (ld, ol) :: (mv, om) :: K2)), p.1 ≠ I)
    (hA : Ap tb td lst tail ((ck, oc) :: (ld, ol) :: (mv, om) :: K2)) (hD : D3 tb td ck ld mv K2) : Ap tb td lst tail ((ck, oc) :: (ld, ol) :: (mv, om) :: (I, oI) :: K2) ∧ D3 tb td ck ld mv ((I, oI) :: K2) :=
  ⟨hA.into ⟨Ne.symm (off (76, o1) (by first | (walk_at "mem go") | simp)), Ne.symm (off (83, o2) (by first | (walk_at "mem go") | simp)), Ne.symm (off (48, o3) (by first | (walk_at "mem go") | simp)), Ne.symm (off (lst, x3) (by first | (walk_at "mem go") | simp))⟩ fun q hq => off q (by first | (walk_at "mem go") | simp [hq]),
   hD.cons ⟨Ne.symm (off (ck, oc) (by first | (walk_at "mem go") | simp)), Ne.symm (off (ld, ol) (by first | (walk_at "mem go") | simp)), Ne.symm (off (mv, om) (by first | (walk_at "mem go") | simp))⟩⟩
end
section
variable {M : Model} {A : Around} {E : Value → Shared → Prop} {s : Shared} {h₀ : Heap} {L a : Addr} {m : Str → Option Value} {cn : Str} {cs : Scope} {ccd : Value} {cl : List (Str × Addr)}
  {x : Str} {v : Value} {Q : Unit → Shared → Prop} {rest : List (Addr × Obj)} {c : Addr} {o : Obj}
theorem store_own (F : Fr h₀ L s.heap m) (N : News h₀ L s.heap ((c, o) :: rest)) (hne : ∀ p ∈ rest, p.1 ≠ c) (hd : ∃ v₀, o.data = .cell v₀) (hc : cl.lookup x = some c)
    (hk : cs.kind = .function) (hx : (envX cn cs L a ccd cl).kindOf x = some .cell)
    (h : ∀ h' o', Fr h₀ L h' m → News h₀ L h' ((c, o') :: rest) → o'.data = .cell (some v) → Q () { s with heap := h' }) : wpAny M A (storeName (envX cn cs L a ccd cl) x v) Q E s := by
  obtain ⟨v₀, hd⟩ := hd
  exact storeX_C F N hc (.head hne) hd h hk hx
end
/-! two lists of one text -/
theorem strs_same {x : Str} : ∀ {ys : List Value}, (∀ y ∈ ys, ∃ t, y = .str x t) → CarriedAll ys (List.replicate ys.length (PyData.str x))
  | [], _ => .nil
  | y :: r, h => by
    obtain ⟨t, rfl⟩ := h y List.mem_cons_self
    exact .cons (.str x t) (strs_same fun z hz => h z (List.mem_cons_of_mem _ hz))
theorem lay_same (x : Str) (hx : PyData.canLay0 (.str x) = true) : ∀ c : Nat, PyData.canLayAll0 (List.replicate c (PyData.str x)) = true
  | 0 => rfl
  | c + 1 => by rw [List.replicate_succ]; simp [PyData.canLayAll0, lay_same x hx c, hx]
theorem depth_same (x : Str) : ∀ c : Nat, PyData.depthAll (List.replicate c (PyData.str x)) = 0
  | 0 => rfl
  | c + 1 => by rw [List.replicate_succ]; simp [PyData.depthAll, PyData.depth, depth_same x c]
theorem shaped_same (x : Str) (hx : PyData.canLay0 (.str x) = true) (c : Nat) : SeqAt.shaped (.list (List.replicate c (PyData.str x))) = true := by
  simp [SeqAt.shaped, PyData.canLay0, PyData.depth, lay_same x hx c, depth_same]
theorem sameAll_same (x : Str) : ∀ c : Nat, PySem.Spec.sameAll (List.replicate c (PyData.str x)) (List.replicate c (PyData.str x)) = true
  | 0 => by simp [PySem.Spec.sameAll]
  | c + 1 => by rw [List.replicate_succ]; simp [PySem.Spec.sameAll, PySem.Spec.same, sameAll_same x c]
section
variable {prog : Program} {w : World} {A : Around} {E : Value → Shared → Prop} {s : Shared} {a b : Addr} {xs ys : List Value} {x : Str} {Q : Value → Shared → Prop}
theorem has_same (x : Str) (c : Nat) : (Shape.list .str).has (.list (List.replicate c (PyData.str x))) = true := by
  have : List.replicate c (PyData.str x) = (List.replicate c x).map PyData.str := by simp
  rw [this]
  exact list_map_has fun _ => rfl
theorem eq_texts (ha : s.heap.IsList a xs.toArray) (hb : s.heap.IsList b ys.toArray) (hi : ∀ y ∈ xs, ∃ t, y = .str x t) (hj : ∀ y ∈ ys, ∃ t, y = .str x t) (hl : xs.length = ys.length) (hx : PyData.canLay0 (.str x) = true) (hu : A.units + 64 < cLine) (h : Q (.bool true) s) :
    wpAny (model prog w) A (compareOp .Eq (.ref a) (.ref b)) Q E s :=
  eq_dataH_same (reads_newData ha (strs_same hi)) (reads_newData hb (strs_same hj)) (shaped_same x hx _) (shaped_same x hx _) hu (SeqAt.noMix_of_shape (.list .str) rfl _ _ (has_same _ _) (has_same _ _)) (by
    simp only [PySem.Spec.same]; rw [hl, sameAll_same]; exact h)
theorem ne_texts (ha : s.heap.IsList a xs.toArray) (hb : s.heap.IsList b ys.toArray) (hi : ∀ y ∈ xs, ∃ t, y = .str x t) (hj : ∀ y ∈ ys, ∃ t, y = .str x t) (hl : xs.length = ys.length) (hx : PyData.canLay0 (.str x) = true) (hu : A.units + 64 < cLine) (h : Q (.bool false) s) :
    wpAny (model prog w) A (compareOp .NotEq (.ref a) (.ref b)) Q E s :=
  ne_dataH_same (reads_newData ha (strs_same hi)) (reads_newData hb (strs_same hj)) (shaped_same x hx _) (shaped_same x hx _) hu (SeqAt.noMix_of_shape (.list .str) rfl _ _ (has_same _ _) (has_same _ _)) (by
    simp only [PySem.Spec.same]; rw [hl, sameAll_same]; exact h)
end
theorem num_lay {n : Nat} (h : n ∈ worthList) : PyData.canLay0 (.str (num n)) = true := by
  have : ∀ n ∈ worthList, PyData.canLay0 (.str (num n)) = true := by decide +kernel
  exact this n h
theorem went_mvs (mvs : List Mv) (k : Nat) : ((mvs.filter fun h => h.k == k).map fun h => (h.n : Int)).sum = (went (mvPairs mvs) k : Nat) := by
  unfold went mvPairs
  induction mvs with
  | nil => rfl
  | cons x r ih =>
    by_cases hx : x.k = k
    · rw [List.filter_cons_of_pos (by first | (walk_at "mem go") | simp [hx]), List.map_cons, List.sum_cons, ih, List.map_cons, List.filter_cons_of_pos (by first | (walk_at "mem go") | simp [hx]), List.map_cons, List.sum_cons, Int.natCast_add]
    · rw [List.filter_cons_of_neg (by first | (walk_at "mem go") | simp [hx]), ih, List.map_cons, List.filter_cons_of_neg (by first | (walk_at "mem go") | simp [hx])]
theorem sum_cast : ∀ l : List Nat, (l.map fun n : Nat => (n : Int)).sum = (l.sum : Nat)
  | [] => rfl
  | x :: r => by rw [List.map_cons, List.sum_cons, List.sum_cons, sum_cast r, Int.natCast_add]
theorem count_cast (l : List Nat) (k : Nat) : (l.map Int.ofNat).count (k : Int) = l.count k := by
  induction l with
  | nil => rfl
  | cons x r ih =>
    rw [List.map_cons, List.count_cons, List.count_cons, ih]
    congr 1
    by_cases h : x = k
    · subst h; simp
    · simp [h]; omega
theorem mv_ints (mvs : List Mv) : ∀ {k : Nat}, IntsAre ((mvs.filter fun h => h.k == k).map fun h => Value.int (h.n : Nat) h.tn) ((mvs.filter fun h => h.k == k).map fun h => (h.n : Int)) := by
  intro k
  induction (mvs.filter fun h => h.k == k) with
  | nil => exact .nil
  | cons x r ih => exact .cons _ _ ih
end PartLx
section PartLy
open PyProof.Rows.LCg
section
variable {prog : Program} {w : World} {A : Around} {E : Value → Shared → Prop} {s : Shared} {x : Int} {y b : Nat} {t u : Tok} {Q : Value → Shared → Prop}
theorem fdiv_cast (y b : Nat) : (y : Int).fdiv (b : Int) = ((y / b : Nat) : Int) := by
  rw [Int.fdiv_eq_ediv_of_nonneg _ (by omega)]; rfl
theorem fmod_cast (y b : Nat) : (y : Int).fmod (b : Int) = ((y % b : Nat) : Int) := by
  rw [Int.fmod_eq_emod_of_nonneg _ (by omega)]; rfl
theorem py_small (hb : b ≤ 5) : Builtin.divisionGoesByPylong x (b : Int) = false := by
  have : ∀ b ≤ 5, ((b : Nat) : Int).natAbs.log2 < 9000 := by decide +kernel
  exact PyProof.noPylong_of_log2 (this b hb)
theorem fdiv_nat (hx : x = (y : Nat)) (hb0 : 2 ≤ b) (hb1 : b ≤ 5) (h : Q (.int ((y / b : Nat) : Int) s.toks) { s with toks := s.toks + 1 }) : wpAny (model prog w) A (binaryOp .FloorDiv (.int x t) (.int (b : Int) u)) Q E s := by
  subst hx
  exact floordiv_int (by omega) (by rw [fdiv_cast]; exact h) (Or.inl (py_small hb1))
theorem ifdiv_nat (hx : x = (y : Nat)) (hb0 : 2 ≤ b) (hb1 : b ≤ 5) (h : Q (.int ((y / b : Nat) : Int) s.toks) { s with toks := s.toks + 1 }) : wpAny (model prog w) A (inplaceOp .FloorDiv (.int x t) (.int (b : Int) u)) Q E s := by
  subst hx
  exact ifloordiv_int (by omega) (by rw [fdiv_cast]; exact h) (Or.inl (py_small hb1))
theorem mod_nat (hx : x = (y : Nat)) (hb0 : 2 ≤ b) (h : Q (.int ((y % b : Nat) : Int) s.toks) { s with toks := s.toks + 1 }) : wpAny (model prog w) A (binaryOp .Mod (.int x t) (.int (b : Int) u)) Q E s := by
  subst hx
  exact mod_int' (by omega) (by rw [fmod_cast]; exact h)
end
theorem replicate_one {v : Value} (n : Nat) : (List.replicate ((n : Nat) : Int).toNat [v]).flatten = List.replicate n v := by
  rw [Int.toNat_natCast]
  induction n with
  | zero => rfl
  | succ n ih => rw [List.replicate_succ, List.flatten_cons, ih, List.replicate_succ]; rfl
theorem came_succ (mv : List (Nat × Nat)) (i : Nat) : cameOf mv (i + 1) = went mv i := by
  unfold cameOf; rw [if_neg (by omega), Nat.add_sub_cancel]
end PartLy
section STL
local macro_rules | `(tactic| walk_at "exec For Name Call cons nil") => `(tactic| (k_here; k_dflt (refine lp_for ?_)))
local macro_rules | `(tactic| walk_at "exec For") => `(tactic| (k_here; k_dflt (refine lp_for ?_)))
local macro_rules | `(tactic| walk_at "eval ListComp") => `(tactic| (k_here; (with_reducible show wpAny _ _ (eval (PySem.Expr.ListComp _ [⟨PySem.Expr.Name _ _, _, [], 0⟩] _ _) _) _ _ _); k_dflt (refine cp_comp (by with_unfolding_all rfl) (by rfl) (by decide) ?_)))
local macro_rules | `(tactic| walk_at "eval ListComp") => `(tactic| (k_here; (with_reducible show wpAny _ _ (eval (PySem.Expr.ListComp _ [⟨PySem.Expr.Tuple [PySem.Expr.Name _ _, PySem.Expr.Name _ _] _ _, _, [_], 0⟩] _ _) _) _ _ _); k_dflt (refine ct_comp (by with_unfolding_all rfl) (by rfl) (by decide) ?_)))
local macro_rules | `(tactic| walk_at "getMethod ref") => `(tactic| (k_here; (with_reducible show wpAny _ _ (getMethod (Value.ref _) (PySem.Str.ofString "count") _) _ _ _); k_dflt (refine' listMethod_K ?N ?m PySem.F.slot_list_count PySem.F.type_list_count ?_; (case N => k_asm); (case m => k_mem))))
local macro_rules | `(tactic| walk_at "subscriptTail") => `(tactic| (k_here; (with_reducible show wpAny _ _ (subscriptTail _ _ (Value.ref _) (Value.int (Nat.cast _) _)) _ _ _); k_dflt (refine item_nat (News.isList (by k_asm) (by k_mem)) (by omega) (by assumption) ?_)))
section PartC14
section
theorem law_D {w : World} {p : Program} {loose : List Str} {mean : ExcName → Option Value} {mg mb : Str → Option Value}
  {b wt : Nat → Nat} {bits wits : Array Value} {eb ew : Nat} {hs : List Hd} {e : Nat} {o1 o2 o3 : Obj} {tail K2 : List (Addr × Obj)} {kt : Tok} {tb td lst bl wl ld mv : Addr} {ock ocw : Obj} {lvs : List Value} {el em : Nat} {lay : List Nat} {mvs : List Mv}
  {dp un : Nat} {gd : Option (List Code)} {cn : Str} {a : Addr} {ccd : Value} {cf ck cw : Addr} {outer : List Env} {A₀ : Around} {base h₀ : Heap} {L : Addr} {m : Str → Option Value} {s : Shared} {Q : Flow → Shared → Prop} {E : Value → Shared → Prop}
  (B : Below A₀ base outer h₀) (F : Fr h₀ L s.heap (fun y => if y = Str.ofString "moves" then some (.ref mv) else if y = Str.ofString "laid" then some (.ref ld) else if y = Str.ofString "table" then some (.ref tb) else if y = Str.ofString "bases" then some (.ref bl) else m y)) (X : (hd.heap_39 w.params).In h₀) (N : News h₀ L s.heap ((76, o1) :: (83, o2) :: (48, o3) :: (tb, instObj 239 td) :: (td, dictOf [{ hash := PyData.keyHash w.params (Str.ofString "_headers"), key := .str (Str.ofString "_headers") kt, val := .ref lst }] 1) :: (lst, W.listOf (hdRefs hs).toArray e) :: (tail ++ ((ck, ock) :: (ld, W.listOf lvs.toArray el) :: (mv, W.listOf (mvRefs mvs).toArray em) :: K2)))) (T : Top p loose mean mg mb h₀)
  (hA : Ap tb td lst tail ((ck, ock) :: (ld, W.listOf lvs.toArray el) :: (mv, W.listOf (mvRefs mvs).toArray em) :: K2)) (hD : D3 tb td ck ld mv K2) (hS : TSt o1 o2 o3 tail) (h5 : Five b wt bits wits) (hbl : (bl, W.listOf bits eb) ∈ K2) (hwl : (wl, W.listOf wits ew) ∈ K2) (hcw : (cw, ocw) ∈ K2) (hocw : ocw.data = .cell (some (.ref wl))) (hock : ∃ v, ock.data = .cell v) (hwt : HdW wt hs) (hsub : ∀ q ∈ hdNews hs, q ∈ tail) (hmk : ∀ q ∈ mvNews mvs, q ∈ K2) (hlv : IntsAre lvs (lay.map Int.ofNat)) (hl5 : ∀ x ∈ lay, x < 5) (hhl : hs.length ≤ 31) (hI : Inv b (cnt hs) lay (mvPairs mvs)) (C76 : CodeHd base 80 76) (C83 : CodeHd base 87 83) (C48 : CodeHd base 52 48) (hd : dp + 60 < recursionLimit) (hu : un + 500 < cLine) (hlen : lay.length ≤ 31) (hmlen : mvs.length ≤ 100) (hLo : Lo b (cnt hs) 4)
  (hret : ∀ (m' : Str → Option Value) (o1' o2' o3' : Obj) (tl tl' : List (Addr × Obj)) (h' : Heap) (tk' : Nat) (dr' : Drawn), Fr h₀ L h' m' → News h₀ L h' ((76, o1') :: (83, o2') :: (48, o3') :: tl) → TSt o1' o2' o3' tl' → Q (.ret (.bool true)) { s with heap := h', drawn := dr', toks := tk' }) :
  wpAny (model Challenge.rw_ny0343_01.row.prog w) (ktrTop dp un gd cn lawScope L a ccd [(Str.ofString "worths", cw), (Str.ofString "k", ck), (Str.ofString "first", cf)] outer) (execs (lawPart 9) (envX cn lawScope L a ccd [(Str.ofString "worths", cw), (Str.ofString "k", ck), (Str.ofString "first", cf)])) Q E s := by
  have eS : lawScope = { kind := _, names := _, isGenerator := _, isCoroutine := _, more := _ } := rfl
  rw [eS]
  clear eS
  have eP : lawPart 9 = _ :: _ := rfl
  rw [eP]
  clear eP
  revert X
  w_top off
  k_fill
  intro X
  replace N := news_front (news_front (news_front (news_front (news_front N (q := (mv, W.listOf (mvRefs mvs).toArray em)) (by first | (walk_at "mem go") | simp)) (q := (ld, W.listOf lvs.toArray el)) (by first | (walk_at "mem go") | simp)) (q := (cw, ocw)) (by first | (walk_at "mem go") | simp [hcw])) (q := (wl, W.listOf wits ew)) (by first | (walk_at "mem go") | simp [hwl])) (q := (bl, W.listOf bits eb)) (by first | (walk_at "mem go") | simp [hbl])
  repeat' ((fail_if_success (with_reducible show wpAny _ _ (call (Value.ref 178) _) _ _ _)); (fail_if_success (with_reducible show wpAny _ _ (call (Value.ref 95) _) _ _ _)); (fail_if_success (with_reducible show wpAny _ _ (call (Value.ref 159) _) _ _ _)); (fail_if_success (with_reducible show wpAny _ _ (call (Value.ref 236) _) _ _ _)); (fail_if_success (with_reducible show wpAny _ _ (call (Value.ref 60) _) _ _ _)); (fail_if_success (with_reducible show LpSrc _ _ _ _ _ _ _ _ _ _ _)); (fail_if_success (with_reducible show wpAny _ _ (binaryOp Operator.FloorDiv _ _) _ _ _)); (fail_if_success (with_reducible show wpAny _ _ (inplaceOp Operator.FloorDiv _ _) _ _ _)); (fail_if_success (with_reducible show wpAny _ _ (binaryOp Operator.Mod _ _) _ _ _)); (fail_if_success (with_reducible show wpAny _ _ (binaryOp Operator.Mult (Value.ref _) _) _ _ _)); (fail_if_success (with_reducible show wpAny _ _ (compareOp _ (Value.ref _) (Value.ref _)) _ _ _)); (fail_if_success (with_reducible show CtSrc _ _ _ _ _ _ _ _ _ _ _ _ _ _ _ _ _ _ _ _ _)); (fail_if_success (with_reducible show wpAny _ _ (call (Value.ref 248) _) _ _ _)); (fail_if_success (with_reducible show wpAny _ _ (call (Value.builtin "sum") _) _ _ _)); (fail_if_success (with_reducible show wpAny _ _ (call (Value.builtin "list.count") _) _ _ _)); (fail_if_success (with_reducible show wpAny _ _ (call (Value.type "str") _) _ _ _)); (fail_if_success (with_reducible show CpSrc _ _ _ _ _ _ _ _ _ _ _ _ _ _ _)); first | (k_unfold; (try dsimp only)) | (k_end; wrow_close) | walk1 | (dsimp only; walk1) | (leave1; walk_say "STEP leave1"; try dsimp only) | fail "no step")
  (rename Fr _ _ _ _ => F1)
  (rename News _ _ _ _ => N1)
  have hlsz : lvs.length = lay.length := by rw [hlv.length, List.length_map]
  k_dflt (refine CpSrc.list (its := lvs.toArray) (by rfl) (by decide) (by rfl) (by rfl) F1 N1 (by rw [sizeLine_eq, List.size_toArray]; omega) (fun i ys nw => nw = (bl, W.listOf bits eb) :: (wl, W.listOf wits ew) :: (cw, ocw) :: (ld, W.listOf lvs.toArray el) :: (mv, W.listOf (mvRefs mvs).toArray em) :: ((76, o1) :: (83, o2) :: (48, o3) :: (tb, instObj 239 td) :: (td, dictOf [{ hash := PyData.keyHash w.params (Str.ofString "_headers"), key := .str (Str.ofString "_headers") kt, val := .ref lst }] 1) :: (lst, W.listOf (hdRefs hs).toArray e) :: (tail ++ ((ck, ock) :: (ld, W.listOf lvs.toArray el) :: (mv, W.listOf (mvRefs mvs).toArray em) :: K2))) ∧ ys.length = i ∧ IntsAre ys ((lay.take i).map fun p => ((wt p : Nat) : Int))) ?cs ?cl ?c0 ?ct ?cf)
  case cs =>
    rintro i ys nw ⟨rfl, _⟩
    exact .inr ⟨W.listOf lvs.toArray el, by simp, rfl, _, rfl⟩
  case cl =>
    rintro i ys nw ⟨_, h, _⟩
    omega
  case c0 => exact ⟨rfl, rfl, .nil⟩
  case ct =>
    intro i ys news₁ v I oI C oC D m₂ h tk dr Q' E' hi hP hJ hC hx F10 N10 off3 ne3 k10
    obtain ⟨rfl, hys, hyi⟩ := hJ
    obtain ⟨n, t, rfl, hn⟩ := IntsAre.at hlv i v (by simpa using hP)
    obtain ⟨pl, hpl, rfl⟩ : ∃ pl : Nat, lay[i]? = some pl ∧ ((pl : Nat) : Int) = n := by simpa using hn
    have hp5 : pl < 5 := hl5 pl (List.mem_of_getElem? hpl)
    obtain ⟨u, hu⟩ := h5.hwit pl hp5
    repeat' ((fail_if_success (with_reducible show wpAny _ _ (call (Value.ref 178) _) _ _ _)); (fail_if_success (with_reducible show wpAny _ _ (call (Value.ref 95) _) _ _ _)); (fail_if_success (with_reducible show wpAny _ _ (call (Value.ref 159) _) _ _ _)); (fail_if_success (with_reducible show wpAny _ _ (call (Value.ref 236) _) _ _ _)); (fail_if_success (with_reducible show wpAny _ _ (call (Value.ref 60) _) _ _ _)); (fail_if_success (with_reducible show LpSrc _ _ _ _ _ _ _ _ _ _ _)); (fail_if_success (with_reducible show wpAny _ _ (binaryOp Operator.FloorDiv _ _) _ _ _)); (fail_if_success (with_reducible show wpAny _ _ (inplaceOp Operator.FloorDiv _ _) _ _ _)); (fail_if_success (with_reducible show wpAny _ _ (binaryOp Operator.Mod _ _) _ _ _)); (fail_if_success (with_reducible show wpAny _ _ (binaryOp Operator.Mult (Value.ref _) _) _ _ _)); (fail_if_success (with_reducible show wpAny _ _ (compareOp _ (Value.ref _) (Value.ref _)) _ _ _)); (fail_if_success (with_reducible show CtSrc _ _ _ _ _ _ _ _ _ _ _ _ _ _ _ _ _ _ _ _ _)); (fail_if_success (with_reducible show wpAny _ _ (call (Value.ref 248) _) _ _ _)); (fail_if_success (with_reducible show wpAny _ _ (call (Value.builtin "sum") _) _ _ _)); (fail_if_success (with_reducible show wpAny _ _ (call (Value.builtin "list.count") _) _ _ _)); (fail_if_success (with_reducible show wpAny _ _ (call (Value.type "str") _) _ _ _)); (fail_if_success (with_reducible show CpSrc _ _ _ _ _ _ _ _ _ _ _ _ _ _ _)); first | (k_unfold; (try dsimp only)) | (k_end; wrow_close) | walk1 | (dsimp only; walk1) | (leave1; walk_say "STEP leave1"; try dsimp only) | fail "no step")
    refine k10 _ _ _ _ _ (by k_asm) (by k_asm) off3 ⟨rfl, by simp [hys], ?_⟩
    rw [List.take_add_one, hpl, List.map_append]
    exact ints_snoc hyi _ u
  case cf =>
    intro D ys h12 tk12 dr12 news12 F12 N12 off12 hJ12
    obtain ⟨rfl, hys, hyi⟩ := hJ12
    rw [List.size_toArray, hlsz, List.take_length] at hyi
    repeat' ((fail_if_success (with_reducible show wpAny _ _ (call (Value.ref 178) _) _ _ _)); (fail_if_success (with_reducible show wpAny _ _ (call (Value.ref 95) _) _ _ _)); (fail_if_success (with_reducible show wpAny _ _ (call (Value.ref 159) _) _ _ _)); (fail_if_success (with_reducible show wpAny _ _ (call (Value.ref 236) _) _ _ _)); (fail_if_success (with_reducible show wpAny _ _ (call (Value.ref 60) _) _ _ _)); (fail_if_success (with_reducible show LpSrc _ _ _ _ _ _ _ _ _ _ _)); (fail_if_success (with_reducible show wpAny _ _ (binaryOp Operator.FloorDiv _ _) _ _ _)); (fail_if_success (with_reducible show wpAny _ _ (inplaceOp Operator.FloorDiv _ _) _ _ _)); (fail_if_success (with_reducible show wpAny _ _ (binaryOp Operator.Mod _ _) _ _ _)); (fail_if_success (with_reducible show wpAny _ _ (binaryOp Operator.Mult (Value.ref _) _) _ _ _)); (fail_if_success (with_reducible show wpAny _ _ (compareOp _ (Value.ref _) (Value.ref _)) _ _ _)); (fail_if_success (with_reducible show CtSrc _ _ _ _ _ _ _ _ _ _ _ _ _ _ _ _ _ _ _ _ _)); (fail_if_success (with_reducible show wpAny _ _ (call (Value.ref 248) _) _ _ _)); (fail_if_success (with_reducible show wpAny _ _ (call (Value.builtin "sum") _) _ _ _)); (fail_if_success (with_reducible show wpAny _ _ (call (Value.builtin "list.count") _) _ _ _)); (fail_if_success (with_reducible show wpAny _ _ (call (Value.type "str") _) _ _ _)); (fail_if_success (with_reducible show CpSrc _ _ _ _ _ _ _ _ _ _ _ _ _ _ _)); first | (k_unfold; (try dsimp only)) | (k_end; wrow_close) | walk1 | (dsimp only; walk1) | (leave1; walk_say "STEP leave1"; try dsimp only) | fail "no step")
    k_dflt (refine PyProof.Rows.LSm.sum_ints F12 N12 (by rfl) (News.isList N12 List.mem_cons_self) hyi ?_)
    intro h13 tk13 t13 F13 N13
    rw [show (lay.map fun p => ((wt p : Nat) : Int)).sum = ((restOf b (cnt hs) 0 : Nat) : Int) by rw [← sum_is hI hl5 h5.hw0 h5.hw, ← sum_cast, List.map_map]; rfl]
    dsimp only
    repeat' ((fail_if_success (with_reducible show wpAny _ _ (call (Value.ref 178) _) _ _ _)); (fail_if_success (with_reducible show wpAny _ _ (call (Value.ref 95) _) _ _ _)); (fail_if_success (with_reducible show wpAny _ _ (call (Value.ref 159) _) _ _ _)); (fail_if_success (with_reducible show wpAny _ _ (call (Value.ref 236) _) _ _ _)); (fail_if_success (with_reducible show wpAny _ _ (call (Value.ref 60) _) _ _ _)); (fail_if_success (with_reducible show LpSrc _ _ _ _ _ _ _ _ _ _ _)); (fail_if_success (with_reducible show wpAny _ _ (binaryOp Operator.FloorDiv _ _) _ _ _)); (fail_if_success (with_reducible show wpAny _ _ (inplaceOp Operator.FloorDiv _ _) _ _ _)); (fail_if_success (with_reducible show wpAny _ _ (binaryOp Operator.Mod _ _) _ _ _)); (fail_if_success (with_reducible show wpAny _ _ (binaryOp Operator.Mult (Value.ref _) _) _ _ _)); (fail_if_success (with_reducible show wpAny _ _ (compareOp _ (Value.ref _) (Value.ref _)) _ _ _)); (fail_if_success (with_reducible show CtSrc _ _ _ _ _ _ _ _ _ _ _ _ _ _ _ _ _ _ _ _ _)); (fail_if_success (with_reducible show wpAny _ _ (call (Value.ref 248) _) _ _ _)); (fail_if_success (with_reducible show wpAny _ _ (call (Value.builtin "sum") _) _ _ _)); (fail_if_success (with_reducible show wpAny _ _ (call (Value.builtin "list.count") _) _ _ _)); (fail_if_success (with_reducible show wpAny _ _ (call (Value.type "str") _) _ _ _)); (fail_if_success (with_reducible show CpSrc _ _ _ _ _ _ _ _ _ _ _ _ _ _ _)); first | (k_unfold; (try dsimp only)) | (k_end; wrow_close) | walk1 | (dsimp only; walk1) | (leave1; walk_say "STEP leave1"; try dsimp only) | fail "no step")
    (rename Fr _ _ _ _ => F14)
    (rename News _ _ _ _ => N14)
    k_dflt (refine LpSrc.rangeS (n := 4) (by rfl) F14 (news_sub N14 (l' := (bl, W.listOf bits eb) :: (wl, W.listOf wits ew) :: (cw, ocw) :: (ld, W.listOf lvs.toArray el) :: (mv, W.listOf (mvRefs mvs).toArray em) :: ((76, o1) :: (83, o2) :: (48, o3) :: (tb, instObj 239 td) :: (td, dictOf [{ hash := PyData.keyHash w.params (Str.ofString "_headers"), key := .str (Str.ofString "_headers") kt, val := .ref lst }] 1) :: (lst, W.listOf (hdRefs hs).toArray e) :: (tail ++ ((ck, ock) :: (ld, W.listOf lvs.toArray el) :: (mv, W.listOf (mvRefs mvs).toArray em) :: K2)))) (by walk_at "sub go")) (by assumption) (by decide) (by decide) (fun i m' nw => (∃ vw tc tr, ∀ y, m' y = (fun y => if y = Str.ofString "went" then vw else if y = Str.ofString "came" then some (.int (cameOf (mvPairs mvs) i : Nat) tc) else if y = Str.ofString "rest" then some (.int (restOf b (cnt hs) i : Nat) tr) else if y = Str.ofString "moves" then some (.ref mv) else if y = Str.ofString "laid" then some (.ref ld) else if y = Str.ofString "table" then some (.ref tb) else if y = Str.ofString "bases" then some (.ref bl) else m y) y) ∧ ∃ ock', nw = (bl, W.listOf bits eb) :: (wl, W.listOf wits ew) :: (cw, ocw) :: (ld, W.listOf lvs.toArray el) :: (mv, W.listOf (mvRefs mvs).toArray em) :: ((76, o1) :: (83, o2) :: (48, o3) :: (tb, instObj 239 td) :: (td, dictOf [{ hash := PyData.keyHash w.params (Str.ofString "_headers"), key := .str (Str.ofString "_headers") kt, val := .ref lst }] 1) :: (lst, W.listOf (hdRefs hs).toArray e) :: (tail ++ ((ck, ock') :: (ld, W.listOf lvs.toArray el) :: (mv, W.listOf (mvRefs mvs).toArray em) :: K2))) ∧ ∃ v, ock'.data = .cell v) ?jj ?tt ?ff)
    case jj => exact ⟨⟨m (Str.ofString "went"), _, _, fun y => (by by_cases hy0 : y = Str.ofString "went"; (case pos => (subst hy0; rfl)); by_cases hy1 : y = Str.ofString "came"; (case pos => (subst hy1; rfl)); by_cases hy2 : y = Str.ofString "rest"; (case pos => (subst hy2; rfl)); by_cases hy3 : y = Str.ofString "moves"; (case pos => (subst hy3; rfl)); by_cases hy4 : y = Str.ofString "laid"; (case pos => (subst hy4; rfl)); by_cases hy5 : y = Str.ofString "table"; (case pos => (subst hy5; rfl)); by_cases hy6 : y = Str.ofString "bases"; (case pos => (subst hy6; rfl)); simp only [hy0, hy1, hy2, hy3, hy4, hy5, hy6, if_false])⟩, ock, rfl, hock⟩
    case ff =>
      intro h8 tk8 dr8 m8 news8 F8 N8 hJ8
      obtain ⟨⟨vw, tc, tr, hm⟩, ock8, rfl, hock8⟩ := hJ8
      have F9 := fr_congr F8 hm
      clear F8 hm
      dsimp only
      repeat' ((fail_if_success (with_reducible show wpAny _ _ (call (Value.ref 178) _) _ _ _)); (fail_if_success (with_reducible show wpAny _ _ (call (Value.ref 95) _) _ _ _)); (fail_if_success (with_reducible show wpAny _ _ (call (Value.ref 159) _) _ _ _)); (fail_if_success (with_reducible show wpAny _ _ (call (Value.ref 236) _) _ _ _)); (fail_if_success (with_reducible show wpAny _ _ (call (Value.ref 60) _) _ _ _)); (fail_if_success (with_reducible show LpSrc _ _ _ _ _ _ _ _ _ _ _)); (fail_if_success (with_reducible show wpAny _ _ (binaryOp Operator.FloorDiv _ _) _ _ _)); (fail_if_success (with_reducible show wpAny _ _ (inplaceOp Operator.FloorDiv _ _) _ _ _)); (fail_if_success (with_reducible show wpAny _ _ (binaryOp Operator.Mod _ _) _ _ _)); (fail_if_success (with_reducible show wpAny _ _ (binaryOp Operator.Mult (Value.ref _) _) _ _ _)); (fail_if_success (with_reducible show wpAny _ _ (compareOp _ (Value.ref _) (Value.ref _)) _ _ _)); (fail_if_success (with_reducible show CtSrc _ _ _ _ _ _ _ _ _ _ _ _ _ _ _ _ _ _ _ _ _)); (fail_if_success (with_reducible show wpAny _ _ (call (Value.ref 248) _) _ _ _)); (fail_if_success (with_reducible show wpAny _ _ (call (Value.builtin "sum") _) _ _ _)); (fail_if_success (with_reducible show wpAny _ _ (call (Value.builtin "list.count") _) _ _ _)); (fail_if_success (with_reducible show wpAny _ _ (call (Value.type "str") _) _ _ _)); (fail_if_success (with_reducible show CpSrc _ _ _ _ _ _ _ _ _ _ _ _ _ _ _)); first | (k_unfold; (try dsimp only)) | (k_end; wrow_close) | walk1 | (dsimp only; walk1) | (leave1; walk_say "STEP leave1"; try dsimp only) | fail "no step")
      rw [show Str.ofString "E" = nmOf 4 true by decide +kernel]
      k_dflt (refine' d_get (hs := hs) (o1 := o1) (o2 := o2) (o3 := o3) (e := e) (kt := kt) (tail := tail) (keep := ((ck, ock8) :: (ld, W.listOf lvs.toArray el) :: (mv, W.listOf (mvRefs mvs).toArray em) :: K2)) ?B ?F ?X ?N ?T ?hk (hA.three (oc' := ock8)) ?hk5 (hwt.ok h5.hwl) hsub ?hsz ?hd ?hu ?_; (case B => k_asm); (case F => k_asm); (case X => k_asm); (case T => k_asm); (case hk => exact rfl); (case N => exact news_sub (by k_asm) (by walk_at "sub go")); (case hk5 => omega); (case hsz => omega); (case hd => ktr_room); (case hu => ktr_units))
      intro gt h16 tk16 F16 N16 hA16
      have hcl : ((hs.filter fun h => h.k == 4).map fun h => Value.str (num h.n) h.tv).length = cnt hs 4 := by rw [List.length_map]; rfl
      have hvv : ∀ v ∈ ((hs.filter fun h => h.k == 4).map fun h => Value.str (num h.n) h.tv), ∃ t, v = .str (num (wt 4)) t := vals_are hwt
      generalize ((hs.filter fun h => h.k == 4).map fun h => Value.str (num h.n) h.tv) = vals at *
      replace N16 := news_front (news_front (news_front (news_front (news_front (news_front N16 (q := (mv, W.listOf (mvRefs mvs).toArray em)) (by first | (walk_at "mem go") | simp)) (q := (ld, W.listOf lvs.toArray el)) (by first | (walk_at "mem go") | simp)) (q := (cw, ocw)) (by first | (walk_at "mem go") | simp [hcw])) (q := (wl, W.listOf wits ew)) (by first | (walk_at "mem go") | simp [hwl])) (q := (bl, W.listOf bits eb)) (by first | (walk_at "mem go") | simp [hbl])) (q := (ck, ock8)) (by first | (walk_at "mem go") | simp)
      replace N16 := news_front N16 (q := (gt, W.listOf vals.toArray vals.length)) (by first | (walk_at "mem go") | simp)
      obtain ⟨uw, huw⟩ := h5.hwit 4 (by omega)
      dsimp only
      repeat' ((fail_if_success (with_reducible show wpAny _ _ (call (Value.ref 178) _) _ _ _)); (fail_if_success (with_reducible show wpAny _ _ (call (Value.ref 95) _) _ _ _)); (fail_if_success (with_reducible show wpAny _ _ (call (Value.ref 159) _) _ _ _)); (fail_if_success (with_reducible show wpAny _ _ (call (Value.ref 236) _) _ _ _)); (fail_if_success (with_reducible show wpAny _ _ (call (Value.ref 60) _) _ _ _)); (fail_if_success (with_reducible show LpSrc _ _ _ _ _ _ _ _ _ _ _)); (fail_if_success (with_reducible show wpAny _ _ (binaryOp Operator.FloorDiv _ _) _ _ _)); (fail_if_success (with_reducible show wpAny _ _ (inplaceOp Operator.FloorDiv _ _) _ _ _)); (fail_if_success (with_reducible show wpAny _ _ (binaryOp Operator.Mod _ _) _ _ _)); (fail_if_success (with_reducible show wpAny _ _ (binaryOp Operator.Mult (Value.ref _) _) _ _ _)); (fail_if_success (with_reducible show wpAny _ _ (compareOp _ (Value.ref _) (Value.ref _)) _ _ _)); (fail_if_success (with_reducible show CtSrc _ _ _ _ _ _ _ _ _ _ _ _ _ _ _ _ _ _ _ _ _)); (fail_if_success (with_reducible show wpAny _ _ (call (Value.ref 248) _) _ _ _)); (fail_if_success (with_reducible show wpAny _ _ (call (Value.builtin "sum") _) _ _ _)); (fail_if_success (with_reducible show wpAny _ _ (call (Value.builtin "list.count") _) _ _ _)); (fail_if_success (with_reducible show wpAny _ _ (call (Value.type "str") _) _ _ _)); (fail_if_success (with_reducible show CpSrc _ _ _ _ _ _ _ _ _ _ _ _ _ _ _)); first | (k_unfold; (try dsimp only)) | (k_end; wrow_close) | walk1 | (dsimp only; walk1) | (leave1; walk_say "STEP leave1"; try dsimp only) | fail "no step")
      k_dflt (refine item_list (News.isList N16 (by k_mem)) (by decide) (by decide) huw ?_)
      repeat' ((fail_if_success (with_reducible show wpAny _ _ (call (Value.ref 178) _) _ _ _)); (fail_if_success (with_reducible show wpAny _ _ (call (Value.ref 95) _) _ _ _)); (fail_if_success (with_reducible show wpAny _ _ (call (Value.ref 159) _) _ _ _)); (fail_if_success (with_reducible show wpAny _ _ (call (Value.ref 236) _) _ _ _)); (fail_if_success (with_reducible show wpAny _ _ (call (Value.ref 60) _) _ _ _)); (fail_if_success (with_reducible show LpSrc _ _ _ _ _ _ _ _ _ _ _)); (fail_if_success (with_reducible show wpAny _ _ (binaryOp Operator.FloorDiv _ _) _ _ _)); (fail_if_success (with_reducible show wpAny _ _ (inplaceOp Operator.FloorDiv _ _) _ _ _)); (fail_if_success (with_reducible show wpAny _ _ (binaryOp Operator.Mod _ _) _ _ _)); (fail_if_success (with_reducible show wpAny _ _ (binaryOp Operator.Mult (Value.ref _) _) _ _ _)); (fail_if_success (with_reducible show wpAny _ _ (compareOp _ (Value.ref _) (Value.ref _)) _ _ _)); (fail_if_success (with_reducible show CtSrc _ _ _ _ _ _ _ _ _ _ _ _ _ _ _ _ _ _ _ _ _)); (fail_if_success (with_reducible show wpAny _ _ (call (Value.ref 248) _) _ _ _)); (fail_if_success (with_reducible show wpAny _ _ (call (Value.builtin "sum") _) _ _ _)); (fail_if_success (with_reducible show wpAny _ _ (call (Value.builtin "list.count") _) _ _ _)); (fail_if_success (with_reducible show wpAny _ _ (call (Value.type "str") _) _ _ _)); (fail_if_success (with_reducible show CpSrc _ _ _ _ _ _ _ _ _ _ _ _ _ _ _)); first | (k_unfold; (try dsimp only)) | (k_end; wrow_close) | walk1 | (dsimp only; walk1) | (leave1; walk_say "STEP leave1"; try dsimp only) | fail "no step")
      refine str_num (h5.hwl 4 (by omega)) ?_
      repeat' ((fail_if_success (with_reducible show wpAny _ _ (call (Value.ref 178) _) _ _ _)); (fail_if_success (with_reducible show wpAny _ _ (call (Value.ref 95) _) _ _ _)); (fail_if_success (with_reducible show wpAny _ _ (call (Value.ref 159) _) _ _ _)); (fail_if_success (with_reducible show wpAny _ _ (call (Value.ref 236) _) _ _ _)); (fail_if_success (with_reducible show wpAny _ _ (call (Value.ref 60) _) _ _ _)); (fail_if_success (with_reducible show LpSrc _ _ _ _ _ _ _ _ _ _ _)); (fail_if_success (with_reducible show wpAny _ _ (binaryOp Operator.FloorDiv _ _) _ _ _)); (fail_if_success (with_reducible show wpAny _ _ (inplaceOp Operator.FloorDiv _ _) _ _ _)); (fail_if_success (with_reducible show wpAny _ _ (binaryOp Operator.Mod _ _) _ _ _)); (fail_if_success (with_reducible show wpAny _ _ (binaryOp Operator.Mult (Value.ref _) _) _ _ _)); (fail_if_success (with_reducible show wpAny _ _ (compareOp _ (Value.ref _) (Value.ref _)) _ _ _)); (fail_if_success (with_reducible show CtSrc _ _ _ _ _ _ _ _ _ _ _ _ _ _ _ _ _ _ _ _ _)); (fail_if_success (with_reducible show wpAny _ _ (call (Value.ref 248) _) _ _ _)); (fail_if_success (with_reducible show wpAny _ _ (call (Value.builtin "sum") _) _ _ _)); (fail_if_success (with_reducible show wpAny _ _ (call (Value.builtin "list.count") _) _ _ _)); (fail_if_success (with_reducible show wpAny _ _ (call (Value.type "str") _) _ _ _)); (fail_if_success (with_reducible show CpSrc _ _ _ _ _ _ _ _ _ _ _ _ _ _ _)); first | (k_unfold; (try dsimp only)) | (k_end; wrow_close) | walk1 | (dsimp only; walk1) | (leave1; walk_say "STEP leave1"; try dsimp only) | fail "no step")
      (rename Fr _ _ _ _ => F17)
      (rename News _ _ _ _ => N17)
      rw [show restOf b (cnt hs) 4 = cnt hs 4 from rfl]
      have hc31 : cnt hs 4 ≤ 31 := Nat.le_trans (List.length_filter_le _ _) hhl
      k_dflt (refine KMa.mul (vs := [_]) F17 N17 (News.isList N17 List.mem_cons_self) (by omega) (by omega) (by simp only [List.length_singleton, Int.toNat_natCast]; omega) (replicate_one _) ?_)
      intro rl h18 F18 N18 l18
      dsimp only
      repeat' ((fail_if_success (with_reducible show wpAny _ _ (call (Value.ref 178) _) _ _ _)); (fail_if_success (with_reducible show wpAny _ _ (call (Value.ref 95) _) _ _ _)); (fail_if_success (with_reducible show wpAny _ _ (call (Value.ref 159) _) _ _ _)); (fail_if_success (with_reducible show wpAny _ _ (call (Value.ref 236) _) _ _ _)); (fail_if_success (with_reducible show wpAny _ _ (call (Value.ref 60) _) _ _ _)); (fail_if_success (with_reducible show LpSrc _ _ _ _ _ _ _ _ _ _ _)); (fail_if_success (with_reducible show wpAny _ _ (binaryOp Operator.FloorDiv _ _) _ _ _)); (fail_if_success (with_reducible show wpAny _ _ (inplaceOp Operator.FloorDiv _ _) _ _ _)); (fail_if_success (with_reducible show wpAny _ _ (binaryOp Operator.Mod _ _) _ _ _)); (fail_if_success (with_reducible show wpAny _ _ (binaryOp Operator.Mult (Value.ref _) _) _ _ _)); (fail_if_success (with_reducible show wpAny _ _ (compareOp _ (Value.ref _) (Value.ref _)) _ _ _)); (fail_if_success (with_reducible show CtSrc _ _ _ _ _ _ _ _ _ _ _ _ _ _ _ _ _ _ _ _ _)); (fail_if_success (with_reducible show wpAny _ _ (call (Value.ref 248) _) _ _ _)); (fail_if_success (with_reducible show wpAny _ _ (call (Value.builtin "sum") _) _ _ _)); (fail_if_success (with_reducible show wpAny _ _ (call (Value.builtin "list.count") _) _ _ _)); (fail_if_success (with_reducible show wpAny _ _ (call (Value.type "str") _) _ _ _)); (fail_if_success (with_reducible show CpSrc _ _ _ _ _ _ _ _ _ _ _ _ _ _ _)); first | (k_unfold; (try dsimp only)) | (k_end; wrow_close) | walk1 | (dsimp only; walk1) | (leave1; walk_say "STEP leave1"; try dsimp only) | fail "no step")
      k_dflt (refine eq_texts (xs := vals) (ys := List.replicate (cnt hs 4) _) (News.isList N18 (by k_mem)) (News.isList N18 List.mem_cons_self) hvv (fun y hy => ⟨_, List.eq_of_mem_replicate hy⟩) (by rw [List.length_replicate]; exact hcl) (num_lay (h5.hwl 4 (by omega))) (by show un + 64 < cLine; omega) ?_)
      repeat' ((fail_if_success (with_reducible show wpAny _ _ (call (Value.ref 178) _) _ _ _)); (fail_if_success (with_reducible show wpAny _ _ (call (Value.ref 95) _) _ _ _)); (fail_if_success (with_reducible show wpAny _ _ (call (Value.ref 159) _) _ _ _)); (fail_if_success (with_reducible show wpAny _ _ (call (Value.ref 236) _) _ _ _)); (fail_if_success (with_reducible show wpAny _ _ (call (Value.ref 60) _) _ _ _)); (fail_if_success (with_reducible show LpSrc _ _ _ _ _ _ _ _ _ _ _)); (fail_if_success (with_reducible show wpAny _ _ (binaryOp Operator.FloorDiv _ _) _ _ _)); (fail_if_success (with_reducible show wpAny _ _ (inplaceOp Operator.FloorDiv _ _) _ _ _)); (fail_if_success (with_reducible show wpAny _ _ (binaryOp Operator.Mod _ _) _ _ _)); (fail_if_success (with_reducible show wpAny _ _ (binaryOp Operator.Mult (Value.ref _) _) _ _ _)); (fail_if_success (with_reducible show wpAny _ _ (compareOp _ (Value.ref _) (Value.ref _)) _ _ _)); (fail_if_success (with_reducible show CtSrc _ _ _ _ _ _ _ _ _ _ _ _ _ _ _ _ _ _ _ _ _)); (fail_if_success (with_reducible show wpAny _ _ (call (Value.ref 248) _) _ _ _)); (fail_if_success (with_reducible show wpAny _ _ (call (Value.builtin "sum") _) _ _ _)); (fail_if_success (with_reducible show wpAny _ _ (call (Value.builtin "list.count") _) _ _ _)); (fail_if_success (with_reducible show wpAny _ _ (call (Value.type "str") _) _ _ _)); (fail_if_success (with_reducible show CpSrc _ _ _ _ _ _ _ _ _ _ _ _ _ _ _)); first | (k_unfold; (try dsimp only)) | (k_end; wrow_close) | walk1 | (dsimp only; walk1) | (leave1; walk_say "STEP leave1"; try dsimp only) | fail "no step")
      exact hret _ o1 o2 o3 tail tail _ _ _ F18 (news_sub N18 (by walk_at "sub go")) hS
    intro I i v m₁ news₁ oI h tk dr Q' E' hi hP hJ off F8 N8 k8
    obtain ⟨⟨vw, tc, tr, hm⟩, ock8, rfl, hock8⟩ := hJ
    obtain ⟨ti, rfl⟩ := hP
    have F9 := fr_congr F8 hm
    clear F8 hm
    obtain ⟨hA9, hD9⟩ := in_loop (oI := oI) (fun p hp => off1_mem off p (List.mem_cons_of_mem _ (List.mem_cons_of_mem _ (List.mem_cons_of_mem _ (List.mem_cons_of_mem _ (List.mem_cons_of_mem _ hp)))))) (hA.three (oc' := ock8)) hD
    rw [Int.zero_add]
    refine store_own F9 (news_sub N8 (l' := (ck, ock8) :: ((76, o1) :: (83, o2) :: (48, o3) :: (tb, instObj 239 td) :: (td, dictOf [{ hash := PyData.keyHash w.params (Str.ofString "_headers"), key := .str (Str.ofString "_headers") kt, val := .ref lst }] 1) :: (lst, W.listOf (hdRefs hs).toArray e) :: (tail ++ ((ld, W.listOf lvs.toArray el) :: (mv, W.listOf (mvRefs mvs).toArray em) :: (I, oI) :: K2)))) (by walk_at "sub go")) (ne_ck hA9 hD9) hock8 (by rfl) (by rfl) (by rfl) ?_
    intro h2 ock2 F2 N2 hock2
    clear N8 F9
    replace N2 := news_front (news_front (news_front (news_front (news_front N2 (q := (mv, W.listOf (mvRefs mvs).toArray em)) (by first | (walk_at "mem go") | simp)) (q := (ld, W.listOf lvs.toArray el)) (by first | (walk_at "mem go") | simp)) (q := (cw, ocw)) (by first | (walk_at "mem go") | simp [hcw])) (q := (wl, W.listOf wits ew)) (by first | (walk_at "mem go") | simp [hwl])) (q := (bl, W.listOf bits eb)) (by first | (walk_at "mem go") | simp [hbl])
    dsimp only
    repeat' ((fail_if_success (with_reducible show wpAny _ _ (call (Value.ref 178) _) _ _ _)); (fail_if_success (with_reducible show wpAny _ _ (call (Value.ref 95) _) _ _ _)); (fail_if_success (with_reducible show wpAny _ _ (call (Value.ref 159) _) _ _ _)); (fail_if_success (with_reducible show wpAny _ _ (call (Value.ref 236) _) _ _ _)); (fail_if_success (with_reducible show wpAny _ _ (call (Value.ref 60) _) _ _ _)); (fail_if_success (with_reducible show LpSrc _ _ _ _ _ _ _ _ _ _ _)); (fail_if_success (with_reducible show wpAny _ _ (binaryOp Operator.FloorDiv _ _) _ _ _)); (fail_if_success (with_reducible show wpAny _ _ (inplaceOp Operator.FloorDiv _ _) _ _ _)); (fail_if_success (with_reducible show wpAny _ _ (binaryOp Operator.Mod _ _) _ _ _)); (fail_if_success (with_reducible show wpAny _ _ (binaryOp Operator.Mult (Value.ref _) _) _ _ _)); (fail_if_success (with_reducible show wpAny _ _ (compareOp _ (Value.ref _) (Value.ref _)) _ _ _)); (fail_if_success (with_reducible show CtSrc _ _ _ _ _ _ _ _ _ _ _ _ _ _ _ _ _ _ _ _ _)); (fail_if_success (with_reducible show wpAny _ _ (call (Value.ref 248) _) _ _ _)); (fail_if_success (with_reducible show wpAny _ _ (call (Value.builtin "sum") _) _ _ _)); (fail_if_success (with_reducible show wpAny _ _ (call (Value.builtin "list.count") _) _ _ _)); (fail_if_success (with_reducible show wpAny _ _ (call (Value.type "str") _) _ _ _)); (fail_if_success (with_reducible show CpSrc _ _ _ _ _ _ _ _ _ _ _ _ _ _ _)); first | (k_unfold; (try dsimp only)) | (k_end; wrow_close) | walk1 | (dsimp only; walk1) | (leave1; walk_say "STEP leave1"; try dsimp only) | fail "no step")
    (rename Fr _ _ _ _ => F3)
    (rename News _ _ _ _ => N3)
    k_dflt (refine CtSrc.list (its := (mvRefs mvs).toArray) (P := fun j t v₁ v₂ => ∃ x : Mv, mvs[j]? = some x ∧ v₁ = .int (x.k : Nat) x.tk ∧ v₂ = .int (x.n : Nat) x.tn) (by rfl) (by decide) (by rfl) (by rfl) (by rfl) (by decide) F3 N3 (by rw [sizeLine_eq, List.size_toArray, mvRefs, List.length_map]; omega) (.inr ⟨W.listOf (mvRefs mvs).toArray em, by simp, rfl, _, rfl⟩) ?hP (fun j ys => ys = ((mvs.take j).filter fun x => x.k == i).map fun x => Value.int (x.n : Nat) x.tn) ?cl ?c0 ?ct ?cf)
    case hP =>
      intro j v hv
      obtain ⟨x, hx, rfl⟩ : ∃ x : Mv, mvs[j]? = some x ∧ Value.ref x.a = v := by simpa [mvRefs] using hv
      refine ⟨x.a, _, _, 0, rfl, ?_, x, hx, rfl, rfl⟩
      have hmem : (x.a, mvObj x) ∈ K2 := hmk _ (List.mem_map_of_mem (List.mem_of_getElem? hx))
      rw [mvObj] at hmem
      simp only [List.mem_cons, List.mem_append, hmem, or_true]
    case cl =>
      rintro j ys rfl
      rw [List.length_map]
      exact Nat.le_trans (List.length_filter_le _ _) (by rw [List.length_take]; omega)
    case c0 => rfl
    case ct =>
      intro j ys v₁ v₂ t I2 oI2 C oC D m₂ h tk R1 R2 E' hj hPj hJ hC ha hb F10 N10 off10 ne10 r1 r2
      obtain ⟨x, hx, rfl, rfl⟩ := hPj
      subst hJ
      have htk : mvs.take (j + 1) = mvs.take j ++ [x] := by rw [List.take_add_one, hx]; rfl
      repeat' ((fail_if_success (with_reducible show wpAny _ _ (call (Value.ref 178) _) _ _ _)); (fail_if_success (with_reducible show wpAny _ _ (call (Value.ref 95) _) _ _ _)); (fail_if_success (with_reducible show wpAny _ _ (call (Value.ref 159) _) _ _ _)); (fail_if_success (with_reducible show wpAny _ _ (call (Value.ref 236) _) _ _ _)); (fail_if_success (with_reducible show wpAny _ _ (call (Value.ref 60) _) _ _ _)); (fail_if_success (with_reducible show LpSrc _ _ _ _ _ _ _ _ _ _ _)); (fail_if_success (with_reducible show wpAny _ _ (binaryOp Operator.FloorDiv _ _) _ _ _)); (fail_if_success (with_reducible show wpAny _ _ (inplaceOp Operator.FloorDiv _ _) _ _ _)); (fail_if_success (with_reducible show wpAny _ _ (binaryOp Operator.Mod _ _) _ _ _)); (fail_if_success (with_reducible show wpAny _ _ (binaryOp Operator.Mult (Value.ref _) _) _ _ _)); (fail_if_success (with_reducible show wpAny _ _ (compareOp _ (Value.ref _) (Value.ref _)) _ _ _)); (fail_if_success (with_reducible show CtSrc _ _ _ _ _ _ _ _ _ _ _ _ _ _ _ _ _ _ _ _ _)); (fail_if_success (with_reducible show wpAny _ _ (call (Value.ref 248) _) _ _ _)); (fail_if_success (with_reducible show wpAny _ _ (call (Value.builtin "sum") _) _ _ _)); (fail_if_success (with_reducible show wpAny _ _ (call (Value.builtin "list.count") _) _ _ _)); (fail_if_success (with_reducible show wpAny _ _ (call (Value.type "str") _) _ _ _)); (fail_if_success (with_reducible show CpSrc _ _ _ _ _ _ _ _ _ _ _ _ _ _ _)); first | (k_unfold; (try dsimp only)) | (k_end; wrow_close) | walk1 | (dsimp only; walk1) | (leave1; walk_say "STEP leave1"; try dsimp only) | fail "no step")
      · have he : x.k = i := by omega
        refine r1 _ _ ?_
        dsimp only
        rw [htk, List.filter_append, List.map_append, List.filter_cons_of_pos (by first | (walk_at "mem go") | simp [he])]
        rfl
      · have he : ¬ x.k = i := by omega
        refine r2 _ ?_
        dsimp only
        rw [htk, List.filter_append, List.map_append, List.filter_cons_of_neg (by first | (walk_at "mem go") | simp [he])]
        simp
    case cf =>
      intro D ys h10 tk10 F10 N10 off10 hJ10
      rw [List.size_toArray, mvRefs, List.length_map, List.take_length] at hJ10
      subst hJ10
      dsimp only
      repeat' ((fail_if_success (with_reducible show wpAny _ _ (call (Value.ref 178) _) _ _ _)); (fail_if_success (with_reducible show wpAny _ _ (call (Value.ref 95) _) _ _ _)); (fail_if_success (with_reducible show wpAny _ _ (call (Value.ref 159) _) _ _ _)); (fail_if_success (with_reducible show wpAny _ _ (call (Value.ref 236) _) _ _ _)); (fail_if_success (with_reducible show wpAny _ _ (call (Value.ref 60) _) _ _ _)); (fail_if_success (with_reducible show LpSrc _ _ _ _ _ _ _ _ _ _ _)); (fail_if_success (with_reducible show wpAny _ _ (binaryOp Operator.FloorDiv _ _) _ _ _)); (fail_if_success (with_reducible show wpAny _ _ (inplaceOp Operator.FloorDiv _ _) _ _ _)); (fail_if_success (with_reducible show wpAny _ _ (binaryOp Operator.Mod _ _) _ _ _)); (fail_if_success (with_reducible show wpAny _ _ (binaryOp Operator.Mult (Value.ref _) _) _ _ _)); (fail_if_success (with_reducible show wpAny _ _ (compareOp _ (Value.ref _) (Value.ref _)) _ _ _)); (fail_if_success (with_reducible show CtSrc _ _ _ _ _ _ _ _ _ _ _ _ _ _ _ _ _ _ _ _ _)); (fail_if_success (with_reducible show wpAny _ _ (call (Value.ref 248) _) _ _ _)); (fail_if_success (with_reducible show wpAny _ _ (call (Value.builtin "sum") _) _ _ _)); (fail_if_success (with_reducible show wpAny _ _ (call (Value.builtin "list.count") _) _ _ _)); (fail_if_success (with_reducible show wpAny _ _ (call (Value.type "str") _) _ _ _)); (fail_if_success (with_reducible show CpSrc _ _ _ _ _ _ _ _ _ _ _ _ _ _ _)); first | (k_unfold; (try dsimp only)) | (k_end; wrow_close) | walk1 | (dsimp only; walk1) | (leave1; walk_say "STEP leave1"; try dsimp only) | fail "no step")
      k_dflt (refine PyProof.Rows.LSm.sum_ints F10 N10 (by rfl) (News.isList N10 List.mem_cons_self) (mv_ints mvs) ?_)
      intro h13 tk13 t13 F13 N13
      rw [went_mvs]
      dsimp only
      obtain ⟨ub, hub⟩ := h5.hbit i (by omega)
      repeat' ((fail_if_success (with_reducible show wpAny _ _ (call (Value.ref 178) _) _ _ _)); (fail_if_success (with_reducible show wpAny _ _ (call (Value.ref 95) _) _ _ _)); (fail_if_success (with_reducible show wpAny _ _ (call (Value.ref 159) _) _ _ _)); (fail_if_success (with_reducible show wpAny _ _ (call (Value.ref 236) _) _ _ _)); (fail_if_success (with_reducible show wpAny _ _ (call (Value.ref 60) _) _ _ _)); (fail_if_success (with_reducible show LpSrc _ _ _ _ _ _ _ _ _ _ _)); (fail_if_success (with_reducible show wpAny _ _ (binaryOp Operator.FloorDiv _ _) _ _ _)); (fail_if_success (with_reducible show wpAny _ _ (inplaceOp Operator.FloorDiv _ _) _ _ _)); (fail_if_success (with_reducible show wpAny _ _ (binaryOp Operator.Mod _ _) _ _ _)); (fail_if_success (with_reducible show wpAny _ _ (binaryOp Operator.Mult (Value.ref _) _) _ _ _)); (fail_if_success (with_reducible show wpAny _ _ (compareOp _ (Value.ref _) (Value.ref _)) _ _ _)); (fail_if_success (with_reducible show CtSrc _ _ _ _ _ _ _ _ _ _ _ _ _ _ _ _ _ _ _ _ _)); (fail_if_success (with_reducible show wpAny _ _ (call (Value.ref 248) _) _ _ _)); (fail_if_success (with_reducible show wpAny _ _ (call (Value.builtin "sum") _) _ _ _)); (fail_if_success (with_reducible show wpAny _ _ (call (Value.builtin "list.count") _) _ _ _)); (fail_if_success (with_reducible show wpAny _ _ (call (Value.type "str") _) _ _ _)); (fail_if_success (with_reducible show CpSrc _ _ _ _ _ _ _ _ _ _ _ _ _ _ _)); first | (k_unfold; (try dsimp only)) | (k_end; wrow_close) | walk1 | (dsimp only; walk1) | (leave1; walk_say "STEP leave1"; try dsimp only) | fail "no step")
      k_dflt (refine count_list_ints (News.isList (by k_asm) (by k_mem)) hlv ?_)
      rw [count_cast]
      repeat' ((fail_if_success (with_reducible show wpAny _ _ (call (Value.ref 178) _) _ _ _)); (fail_if_success (with_reducible show wpAny _ _ (call (Value.ref 95) _) _ _ _)); (fail_if_success (with_reducible show wpAny _ _ (call (Value.ref 159) _) _ _ _)); (fail_if_success (with_reducible show wpAny _ _ (call (Value.ref 236) _) _ _ _)); (fail_if_success (with_reducible show wpAny _ _ (call (Value.ref 60) _) _ _ _)); (fail_if_success (with_reducible show LpSrc _ _ _ _ _ _ _ _ _ _ _)); (fail_if_success (with_reducible show wpAny _ _ (binaryOp Operator.FloorDiv _ _) _ _ _)); (fail_if_success (with_reducible show wpAny _ _ (inplaceOp Operator.FloorDiv _ _) _ _ _)); (fail_if_success (with_reducible show wpAny _ _ (binaryOp Operator.Mod _ _) _ _ _)); (fail_if_success (with_reducible show wpAny _ _ (binaryOp Operator.Mult (Value.ref _) _) _ _ _)); (fail_if_success (with_reducible show wpAny _ _ (compareOp _ (Value.ref _) (Value.ref _)) _ _ _)); (fail_if_success (with_reducible show CtSrc _ _ _ _ _ _ _ _ _ _ _ _ _ _ _ _ _ _ _ _ _)); (fail_if_success (with_reducible show wpAny _ _ (call (Value.ref 248) _) _ _ _)); (fail_if_success (with_reducible show wpAny _ _ (call (Value.builtin "sum") _) _ _ _)); (fail_if_success (with_reducible show wpAny _ _ (call (Value.builtin "list.count") _) _ _ _)); (fail_if_success (with_reducible show wpAny _ _ (call (Value.type "str") _) _ _ _)); (fail_if_success (with_reducible show CpSrc _ _ _ _ _ _ _ _ _ _ _ _ _ _ _)); first | (k_unfold; (try dsimp only)) | (k_end; wrow_close) | walk1 | (dsimp only; walk1) | (leave1; walk_say "STEP leave1"; try dsimp only) | fail "no step")
      k_dflt (refine fdiv_nat (y := List.count i lay + cameOf (mvPairs mvs) i) (by rw [Int.natCast_add]) (h5.hb0 i hi) (h5.hb1 i hi) ?_)
      rw [← went_is hI hi (h5.hb0 i hi) hLo]
      dsimp only
      obtain ⟨uw, huw⟩ := h5.hwit i (by omega)
      repeat' ((fail_if_success (with_reducible show wpAny _ _ (call (Value.ref 178) _) _ _ _)); (fail_if_success (with_reducible show wpAny _ _ (call (Value.ref 95) _) _ _ _)); (fail_if_success (with_reducible show wpAny _ _ (call (Value.ref 159) _) _ _ _)); (fail_if_success (with_reducible show wpAny _ _ (call (Value.ref 236) _) _ _ _)); (fail_if_success (with_reducible show wpAny _ _ (call (Value.ref 60) _) _ _ _)); (fail_if_success (with_reducible show LpSrc _ _ _ _ _ _ _ _ _ _ _)); (fail_if_success (with_reducible show wpAny _ _ (binaryOp Operator.FloorDiv _ _) _ _ _)); (fail_if_success (with_reducible show wpAny _ _ (inplaceOp Operator.FloorDiv _ _) _ _ _)); (fail_if_success (with_reducible show wpAny _ _ (binaryOp Operator.Mod _ _) _ _ _)); (fail_if_success (with_reducible show wpAny _ _ (binaryOp Operator.Mult (Value.ref _) _) _ _ _)); (fail_if_success (with_reducible show wpAny _ _ (compareOp _ (Value.ref _) (Value.ref _)) _ _ _)); (fail_if_success (with_reducible show CtSrc _ _ _ _ _ _ _ _ _ _ _ _ _ _ _ _ _ _ _ _ _)); (fail_if_success (with_reducible show wpAny _ _ (call (Value.ref 248) _) _ _ _)); (fail_if_success (with_reducible show wpAny _ _ (call (Value.builtin "sum") _) _ _ _)); (fail_if_success (with_reducible show wpAny _ _ (call (Value.builtin "list.count") _) _ _ _)); (fail_if_success (with_reducible show wpAny _ _ (call (Value.type "str") _) _ _ _)); (fail_if_success (with_reducible show CpSrc _ _ _ _ _ _ _ _ _ _ _ _ _ _ _)); first | (k_unfold; (try dsimp only)) | (k_end; wrow_close) | walk1 | (dsimp only; walk1) | (leave1; walk_say "STEP leave1"; try dsimp only) | fail "no step")
      · exact absurd rfl ‹((went (mvPairs mvs) i : Nat) : Int) ≠ _›
      rw [item_lo hi]
      (rename Fr _ _ _ _ => F15)
      (rename News _ _ _ _ => N15)
      k_dflt (refine' d_get (hs := hs) (o1 := o1) (o2 := o2) (o3 := o3) (e := e) (kt := kt) (tail := tail) (keep := ((ck, ock2) :: (ld, W.listOf lvs.toArray el) :: (mv, W.listOf (mvRefs mvs).toArray em) :: (I, oI) :: K2)) ?B ?F ?X ?N ?T ?hk (hA9.three (oc' := ock2)) ?hk5 (hwt.ok h5.hwl) hsub ?hsz ?hd ?hu ?_; (case B => k_asm); (case F => k_asm); (case X => k_asm); (case T => k_asm); (case hk => exact rfl); (case N => exact news_sub (by k_asm) (by walk_at "sub go")); (case hk5 => omega); (case hsz => omega); (case hd => ktr_room); (case hu => ktr_units))
      intro gt h16 tk16 F16 N16 hA16
      have hcl : ((hs.filter fun h => h.k == i).map fun h => Value.str (num h.n) h.tv).length = cnt hs i := by rw [List.length_map]; rfl
      have hvv : ∀ v ∈ ((hs.filter fun h => h.k == i).map fun h => Value.str (num h.n) h.tv), ∃ t, v = .str (num (wt i)) t := vals_are hwt
      generalize ((hs.filter fun h => h.k == i).map fun h => Value.str (num h.n) h.tv) = vals at *
      replace N16 := news_front (news_front (news_front (news_front (news_front (news_front N16 (q := (mv, W.listOf (mvRefs mvs).toArray em)) (by first | (walk_at "mem go") | simp)) (q := (ld, W.listOf lvs.toArray el)) (by first | (walk_at "mem go") | simp)) (q := (cw, ocw)) (by first | (walk_at "mem go") | simp [hcw])) (q := (wl, W.listOf wits ew)) (by first | (walk_at "mem go") | simp [hwl])) (q := (bl, W.listOf bits eb)) (by first | (walk_at "mem go") | simp [hbl])) (q := (ck, ock2)) (by first | (walk_at "mem go") | simp)
      replace N16 := news_front N16 (q := (gt, W.listOf vals.toArray vals.length)) (by first | (walk_at "mem go") | simp)
      dsimp only
      repeat' ((fail_if_success (with_reducible show wpAny _ _ (call (Value.ref 178) _) _ _ _)); (fail_if_success (with_reducible show wpAny _ _ (call (Value.ref 95) _) _ _ _)); (fail_if_success (with_reducible show wpAny _ _ (call (Value.ref 159) _) _ _ _)); (fail_if_success (with_reducible show wpAny _ _ (call (Value.ref 236) _) _ _ _)); (fail_if_success (with_reducible show wpAny _ _ (call (Value.ref 60) _) _ _ _)); (fail_if_success (with_reducible show LpSrc _ _ _ _ _ _ _ _ _ _ _)); (fail_if_success (with_reducible show wpAny _ _ (binaryOp Operator.FloorDiv _ _) _ _ _)); (fail_if_success (with_reducible show wpAny _ _ (inplaceOp Operator.FloorDiv _ _) _ _ _)); (fail_if_success (with_reducible show wpAny _ _ (binaryOp Operator.Mod _ _) _ _ _)); (fail_if_success (with_reducible show wpAny _ _ (binaryOp Operator.Mult (Value.ref _) _) _ _ _)); (fail_if_success (with_reducible show wpAny _ _ (compareOp _ (Value.ref _) (Value.ref _)) _ _ _)); (fail_if_success (with_reducible show CtSrc _ _ _ _ _ _ _ _ _ _ _ _ _ _ _ _ _ _ _ _ _)); (fail_if_success (with_reducible show wpAny _ _ (call (Value.ref 248) _) _ _ _)); (fail_if_success (with_reducible show wpAny _ _ (call (Value.builtin "sum") _) _ _ _)); (fail_if_success (with_reducible show wpAny _ _ (call (Value.builtin "list.count") _) _ _ _)); (fail_if_success (with_reducible show wpAny _ _ (call (Value.type "str") _) _ _ _)); (fail_if_success (with_reducible show CpSrc _ _ _ _ _ _ _ _ _ _ _ _ _ _ _)); first | (k_unfold; (try dsimp only)) | (k_end; wrow_close) | walk1 | (dsimp only; walk1) | (leave1; walk_say "STEP leave1"; try dsimp only) | fail "no step")
      refine str_num (h5.hwl i (by omega)) ?_
      repeat' ((fail_if_success (with_reducible show wpAny _ _ (call (Value.ref 178) _) _ _ _)); (fail_if_success (with_reducible show wpAny _ _ (call (Value.ref 95) _) _ _ _)); (fail_if_success (with_reducible show wpAny _ _ (call (Value.ref 159) _) _ _ _)); (fail_if_success (with_reducible show wpAny _ _ (call (Value.ref 236) _) _ _ _)); (fail_if_success (with_reducible show wpAny _ _ (call (Value.ref 60) _) _ _ _)); (fail_if_success (with_reducible show LpSrc _ _ _ _ _ _ _ _ _ _ _)); (fail_if_success (with_reducible show wpAny _ _ (binaryOp Operator.FloorDiv _ _) _ _ _)); (fail_if_success (with_reducible show wpAny _ _ (inplaceOp Operator.FloorDiv _ _) _ _ _)); (fail_if_success (with_reducible show wpAny _ _ (binaryOp Operator.Mod _ _) _ _ _)); (fail_if_success (with_reducible show wpAny _ _ (binaryOp Operator.Mult (Value.ref _) _) _ _ _)); (fail_if_success (with_reducible show wpAny _ _ (compareOp _ (Value.ref _) (Value.ref _)) _ _ _)); (fail_if_success (with_reducible show CtSrc _ _ _ _ _ _ _ _ _ _ _ _ _ _ _ _ _ _ _ _ _)); (fail_if_success (with_reducible show wpAny _ _ (call (Value.ref 248) _) _ _ _)); (fail_if_success (with_reducible show wpAny _ _ (call (Value.builtin "sum") _) _ _ _)); (fail_if_success (with_reducible show wpAny _ _ (call (Value.builtin "list.count") _) _ _ _)); (fail_if_success (with_reducible show wpAny _ _ (call (Value.type "str") _) _ _ _)); (fail_if_success (with_reducible show CpSrc _ _ _ _ _ _ _ _ _ _ _ _ _ _ _)); first | (k_unfold; (try dsimp only)) | (k_end; wrow_close) | walk1 | (dsimp only; walk1) | (leave1; walk_say "STEP leave1"; try dsimp only) | fail "no step")
      k_dflt (refine mod_nat (y := restOf b (cnt hs) i) rfl (h5.hb0 i hi) ?_)
      rw [restOf_mod hi hLo]
      repeat' ((fail_if_success (with_reducible show wpAny _ _ (call (Value.ref 178) _) _ _ _)); (fail_if_success (with_reducible show wpAny _ _ (call (Value.ref 95) _) _ _ _)); (fail_if_success (with_reducible show wpAny _ _ (call (Value.ref 159) _) _ _ _)); (fail_if_success (with_reducible show wpAny _ _ (call (Value.ref 236) _) _ _ _)); (fail_if_success (with_reducible show wpAny _ _ (call (Value.ref 60) _) _ _ _)); (fail_if_success (with_reducible show LpSrc _ _ _ _ _ _ _ _ _ _ _)); (fail_if_success (with_reducible show wpAny _ _ (binaryOp Operator.FloorDiv _ _) _ _ _)); (fail_if_success (with_reducible show wpAny _ _ (inplaceOp Operator.FloorDiv _ _) _ _ _)); (fail_if_success (with_reducible show wpAny _ _ (binaryOp Operator.Mod _ _) _ _ _)); (fail_if_success (with_reducible show wpAny _ _ (binaryOp Operator.Mult (Value.ref _) _) _ _ _)); (fail_if_success (with_reducible show wpAny _ _ (compareOp _ (Value.ref _) (Value.ref _)) _ _ _)); (fail_if_success (with_reducible show CtSrc _ _ _ _ _ _ _ _ _ _ _ _ _ _ _ _ _ _ _ _ _)); (fail_if_success (with_reducible show wpAny _ _ (call (Value.ref 248) _) _ _ _)); (fail_if_success (with_reducible show wpAny _ _ (call (Value.builtin "sum") _) _ _ _)); (fail_if_success (with_reducible show wpAny _ _ (call (Value.builtin "list.count") _) _ _ _)); (fail_if_success (with_reducible show wpAny _ _ (call (Value.type "str") _) _ _ _)); (fail_if_success (with_reducible show CpSrc _ _ _ _ _ _ _ _ _ _ _ _ _ _ _)); first | (k_unfold; (try dsimp only)) | (k_end; wrow_close) | walk1 | (dsimp only; walk1) | (leave1; walk_say "STEP leave1"; try dsimp only) | fail "no step")
      (rename Fr _ _ _ _ => F17)
      (rename News _ _ _ _ => N17)
      have hc31 : cnt hs i ≤ 31 := Nat.le_trans (List.length_filter_le _ _) hhl
      k_dflt (refine KMa.mul (vs := [.str (num (wt i)) tk16]) F17 N17 (News.isList N17 List.mem_cons_self) (by omega) (by omega) (by simp only [List.length_singleton, Int.toNat_natCast]; omega) (replicate_one _) ?_)
      intro rl h18 F18 N18 l18
      dsimp only
      repeat' ((fail_if_success (with_reducible show wpAny _ _ (call (Value.ref 178) _) _ _ _)); (fail_if_success (with_reducible show wpAny _ _ (call (Value.ref 95) _) _ _ _)); (fail_if_success (with_reducible show wpAny _ _ (call (Value.ref 159) _) _ _ _)); (fail_if_success (with_reducible show wpAny _ _ (call (Value.ref 236) _) _ _ _)); (fail_if_success (with_reducible show wpAny _ _ (call (Value.ref 60) _) _ _ _)); (fail_if_success (with_reducible show LpSrc _ _ _ _ _ _ _ _ _ _ _)); (fail_if_success (with_reducible show wpAny _ _ (binaryOp Operator.FloorDiv _ _) _ _ _)); (fail_if_success (with_reducible show wpAny _ _ (inplaceOp Operator.FloorDiv _ _) _ _ _)); (fail_if_success (with_reducible show wpAny _ _ (binaryOp Operator.Mod _ _) _ _ _)); (fail_if_success (with_reducible show wpAny _ _ (binaryOp Operator.Mult (Value.ref _) _) _ _ _)); (fail_if_success (with_reducible show wpAny _ _ (compareOp _ (Value.ref _) (Value.ref _)) _ _ _)); (fail_if_success (with_reducible show CtSrc _ _ _ _ _ _ _ _ _ _ _ _ _ _ _ _ _ _ _ _ _)); (fail_if_success (with_reducible show wpAny _ _ (call (Value.ref 248) _) _ _ _)); (fail_if_success (with_reducible show wpAny _ _ (call (Value.builtin "sum") _) _ _ _)); (fail_if_success (with_reducible show wpAny _ _ (call (Value.builtin "list.count") _) _ _ _)); (fail_if_success (with_reducible show wpAny _ _ (call (Value.type "str") _) _ _ _)); (fail_if_success (with_reducible show CpSrc _ _ _ _ _ _ _ _ _ _ _ _ _ _ _)); first | (k_unfold; (try dsimp only)) | (k_end; wrow_close) | walk1 | (dsimp only; walk1) | (leave1; walk_say "STEP leave1"; try dsimp only) | fail "no step")
      k_dflt (refine ne_texts (xs := vals) (ys := List.replicate (cnt hs i) (Value.str (num (wt i)) tk16)) (News.isList N18 (by k_mem)) (News.isList N18 List.mem_cons_self) hvv (fun y hy => ⟨_, List.eq_of_mem_replicate hy⟩) (by rw [List.length_replicate]; exact hcl) (num_lay (h5.hwl i (by omega))) (by show un + 64 < cLine; omega) ?_)
      repeat' ((fail_if_success (with_reducible show wpAny _ _ (call (Value.ref 178) _) _ _ _)); (fail_if_success (with_reducible show wpAny _ _ (call (Value.ref 95) _) _ _ _)); (fail_if_success (with_reducible show wpAny _ _ (call (Value.ref 159) _) _ _ _)); (fail_if_success (with_reducible show wpAny _ _ (call (Value.ref 236) _) _ _ _)); (fail_if_success (with_reducible show wpAny _ _ (call (Value.ref 60) _) _ _ _)); (fail_if_success (with_reducible show LpSrc _ _ _ _ _ _ _ _ _ _ _)); (fail_if_success (with_reducible show wpAny _ _ (binaryOp Operator.FloorDiv _ _) _ _ _)); (fail_if_success (with_reducible show wpAny _ _ (inplaceOp Operator.FloorDiv _ _) _ _ _)); (fail_if_success (with_reducible show wpAny _ _ (binaryOp Operator.Mod _ _) _ _ _)); (fail_if_success (with_reducible show wpAny _ _ (binaryOp Operator.Mult (Value.ref _) _) _ _ _)); (fail_if_success (with_reducible show wpAny _ _ (compareOp _ (Value.ref _) (Value.ref _)) _ _ _)); (fail_if_success (with_reducible show CtSrc _ _ _ _ _ _ _ _ _ _ _ _ _ _ _ _ _ _ _ _ _)); (fail_if_success (with_reducible show wpAny _ _ (call (Value.ref 248) _) _ _ _)); (fail_if_success (with_reducible show wpAny _ _ (call (Value.builtin "sum") _) _ _ _)); (fail_if_success (with_reducible show wpAny _ _ (call (Value.builtin "list.count") _) _ _ _)); (fail_if_success (with_reducible show wpAny _ _ (call (Value.type "str") _) _ _ _)); (fail_if_success (with_reducible show CpSrc _ _ _ _ _ _ _ _ _ _ _ _ _ _ _)); first | (k_unfold; (try dsimp only)) | (k_end; wrow_close) | walk1 | (dsimp only; walk1) | (leave1; walk_say "STEP leave1"; try dsimp only) | fail "no step")
      (rename Fr _ _ _ _ => F19)
      k_dflt (refine wpAny_loadName_local (by rfl) (by rfl) (Fr.ns F19) (by rfl) ?_)
      repeat' ((fail_if_success (with_reducible show wpAny _ _ (call (Value.ref 178) _) _ _ _)); (fail_if_success (with_reducible show wpAny _ _ (call (Value.ref 95) _) _ _ _)); (fail_if_success (with_reducible show wpAny _ _ (call (Value.ref 159) _) _ _ _)); (fail_if_success (with_reducible show wpAny _ _ (call (Value.ref 236) _) _ _ _)); (fail_if_success (with_reducible show wpAny _ _ (call (Value.ref 60) _) _ _ _)); (fail_if_success (with_reducible show LpSrc _ _ _ _ _ _ _ _ _ _ _)); (fail_if_success (with_reducible show wpAny _ _ (binaryOp Operator.FloorDiv _ _) _ _ _)); (fail_if_success (with_reducible show wpAny _ _ (inplaceOp Operator.FloorDiv _ _) _ _ _)); (fail_if_success (with_reducible show wpAny _ _ (binaryOp Operator.Mod _ _) _ _ _)); (fail_if_success (with_reducible show wpAny _ _ (binaryOp Operator.Mult (Value.ref _) _) _ _ _)); (fail_if_success (with_reducible show wpAny _ _ (compareOp _ (Value.ref _) (Value.ref _)) _ _ _)); (fail_if_success (with_reducible show CtSrc _ _ _ _ _ _ _ _ _ _ _ _ _ _ _ _ _ _ _ _ _)); (fail_if_success (with_reducible show wpAny _ _ (call (Value.ref 248) _) _ _ _)); (fail_if_success (with_reducible show wpAny _ _ (call (Value.builtin "sum") _) _ _ _)); (fail_if_success (with_reducible show wpAny _ _ (call (Value.builtin "list.count") _) _ _ _)); (fail_if_success (with_reducible show wpAny _ _ (call (Value.type "str") _) _ _ _)); (fail_if_success (with_reducible show CpSrc _ _ _ _ _ _ _ _ _ _ _ _ _ _ _)); first | (k_unfold; (try dsimp only)) | (k_end; wrow_close) | walk1 | (dsimp only; walk1) | (leave1; walk_say "STEP leave1"; try dsimp only) | fail "no step")
      k_dflt (refine ifdiv_nat (y := restOf b (cnt hs) i) rfl (h5.hb0 i hi) (h5.hb1 i hi) ?_)
      rw [restOf_div hi (h5.hb0 i hi) hLo]
      dsimp only
      repeat' ((fail_if_success (with_reducible show wpAny _ _ (call (Value.ref 178) _) _ _ _)); (fail_if_success (with_reducible show wpAny _ _ (call (Value.ref 95) _) _ _ _)); (fail_if_success (with_reducible show wpAny _ _ (call (Value.ref 159) _) _ _ _)); (fail_if_success (with_reducible show wpAny _ _ (call (Value.ref 236) _) _ _ _)); (fail_if_success (with_reducible show wpAny _ _ (call (Value.ref 60) _) _ _ _)); (fail_if_success (with_reducible show LpSrc _ _ _ _ _ _ _ _ _ _ _)); (fail_if_success (with_reducible show wpAny _ _ (binaryOp Operator.FloorDiv _ _) _ _ _)); (fail_if_success (with_reducible show wpAny _ _ (inplaceOp Operator.FloorDiv _ _) _ _ _)); (fail_if_success (with_reducible show wpAny _ _ (binaryOp Operator.Mod _ _) _ _ _)); (fail_if_success (with_reducible show wpAny _ _ (binaryOp Operator.Mult (Value.ref _) _) _ _ _)); (fail_if_success (with_reducible show wpAny _ _ (compareOp _ (Value.ref _) (Value.ref _)) _ _ _)); (fail_if_success (with_reducible show CtSrc _ _ _ _ _ _ _ _ _ _ _ _ _ _ _ _ _ _ _ _ _)); (fail_if_success (with_reducible show wpAny _ _ (call (Value.ref 248) _) _ _ _)); (fail_if_success (with_reducible show wpAny _ _ (call (Value.builtin "sum") _) _ _ _)); (fail_if_success (with_reducible show wpAny _ _ (call (Value.builtin "list.count") _) _ _ _)); (fail_if_success (with_reducible show wpAny _ _ (call (Value.type "str") _) _ _ _)); (fail_if_success (with_reducible show CpSrc _ _ _ _ _ _ _ _ _ _ _ _ _ _ _)); first | (k_unfold; (try dsimp only)) | (k_end; wrow_close) | walk1 | (dsimp only; walk1) | (leave1; walk_say "STEP leave1"; try dsimp only) | fail "no step")
      exact k8 _ _ _ _ _ (by k_asm) (news_sub (by k_asm) (l' := (I, oI) :: (bl, W.listOf bits eb) :: (wl, W.listOf wits ew) :: (cw, ocw) :: (ld, W.listOf lvs.toArray el) :: (mv, W.listOf (mvRefs mvs).toArray em) :: ((76, o1) :: (83, o2) :: (48, o3) :: (tb, instObj 239 td) :: (td, dictOf [{ hash := PyData.keyHash w.params (Str.ofString "_headers"), key := .str (Str.ofString "_headers") kt, val := .ref lst }] 1) :: (lst, W.listOf (hdRefs hs).toArray e) :: (tail ++ ((ck, ock2) :: (ld, W.listOf lvs.toArray el) :: (mv, W.listOf (mvRefs mvs).toArray em) :: K2)))) (by walk_at "sub go")) (off1_map (by first | (walk_at "mem go") | simp) off) ⟨⟨some (.int (went (mvPairs mvs) i : Nat) t13), t13, _, fun y => (by rw [came_succ]; exact (by by_cases hy0 : y = Str.ofString "went"; (case pos => (subst hy0; rfl)); by_cases hy1 : y = Str.ofString "came"; (case pos => (subst hy1; rfl)); by_cases hy2 : y = Str.ofString "rest"; (case pos => (subst hy2; rfl)); by_cases hy3 : y = Str.ofString "moves"; (case pos => (subst hy3; rfl)); by_cases hy4 : y = Str.ofString "laid"; (case pos => (subst hy4; rfl)); by_cases hy5 : y = Str.ofString "table"; (case pos => (subst hy5; rfl)); by_cases hy6 : y = Str.ofString "bases"; (case pos => (subst hy6; rfl)); simp only [hy0, hy1, hy2, hy3, hy4, hy5, hy6, if_false]))⟩, ock2, rfl, _, hock2⟩
end
end PartC14
section PartLz
open PyProof.Rows.LCg
theorem isList_up {h₀ h : Heap} {L x : Addr} {m : Str → Option Value} {its : Array Value} (hl : h₀.IsList x its) (F : Fr h₀ L h m) : h.IsList x its := by
  obtain ⟨o, e, r⟩ := hl
  exact ⟨o, F.keep _ _ e, r⟩
theorem item_two {prog : Program} {w : World} {A : Around} {E : Value → Shared → Prop} {s : Shared} {h₀ : Heap} {L t a0 a1 : Addr} {news : List (Addr × Obj)} {value slice : PySem.Expr} {S : Int} {u : Tok} {Q : Value → Shared → Prop} (N : News h₀ L s.heap news) (hm : (t, ({ cls := .type "tuple", data := .seq #[.ref a0, .ref a1] } : Obj)) ∈ news)
    (h : ∀ ks : Addr, ks = a0 ∨ ks = a1 → Q (.ref ks) s)
    (hs : subscripted slice false (.ref t) (.int (S.fmod 2) u) = operate [.ref t, .int (S.fmod 2) u] (getItem (.ref t) (.int (S.fmod 2) u)) := by with_unfolding_all rfl) : wpAny (model prog w) A (subscriptTail value slice (.ref t) (.int (S.fmod 2) u)) Q E s := by
  have ht : IsTup s.heap t #[.ref a0, .ref a1] := ⟨_, (N _ hm).1, rfl, _, rfl⟩
  have h2 : S.fmod 2 = 0 ∨ S.fmod 2 = 1 := by rw [Int.fmod_eq_emod_of_nonneg _ (by omega)]; omega
  refine tail_any ht.typeIs PySem.F.slot_tuple_getitem.lookup ?_ hs
  rcases h2 with h2 | h2
  · rw [h2]; exact getItem_tuple (j := 0) ht (by decide) (by decide) (by rfl) rfl (h a0 (.inl rfl))
  · rw [h2]; exact getItem_tuple (j := 1) ht (by decide) (by decide) (by rfl) rfl (h a1 (.inr rfl))
theorem item_mix {p : Nat} (h : p < 5) : Txt.item (Str.ofString "aBcDe") (p : Int) = nmOf p (p % 2 == 1) := by
  have : ∀ p < 5, Txt.item (Str.ofString "aBcDe") ((p : Nat) : Int) = nmOf p (p % 2 == 1) := by decide +kernel
  exact this p h
theorem fmod_small (n : Int) (q : Nat) (hq : 0 < q) : ∃ p : Nat, p < q ∧ n.fmod (q : Int) = (p : Int) := by
  have h1 := Int.emod_nonneg n (b := (q : Int)) (by omega)
  have h2 := Int.emod_lt_of_pos n (b := (q : Int)) (by omega)
  exact ⟨(n % (q : Int)).toNat, by omega, by rw [Int.fmod_eq_emod_of_nonneg _ (by omega)]; omega⟩
theorem cnt_snoc {hs : List Hd} {h : Hd} {p : Nat} (hp : h.k = p) (j : Nat) : cnt (hs ++ [h]) j = if j = p then cnt hs j + 1 else cnt hs j := by
  rw [cnt_append, cnt_same (l := [h]) (k := p) (fun x hx => by rw [List.mem_singleton.mp hx]; exact hp)]
  split <;> rfl
/-- the ledger of the law: what it has made, the frozen part FZ last -/
def LawSt (w : World) (kt : Tok) (wt : Nat → Nat) (tb td lst ck ld mv : Addr) (FZ nw : List (Addr × Obj)) (lay : List Nat) (hs : List Hd) (mvs : List Mv) : Prop :=
  ∃ (e : Nat) (o1 o2 o3 : Obj) (tail : List (Addr × Obj)) (ock : Obj) (lvs : List Value) (el em : Nat), nw = ((76, o1) :: (83, o2) :: (48, o3) :: (tb, instObj 239 td) :: (td, dictOf [{ hash := PyData.keyHash w.params (Str.ofString "_headers"), key := .str (Str.ofString "_headers") kt, val := .ref lst }] 1) :: (lst, W.listOf (hdRefs hs).toArray e) :: (tail ++ ((ck, ock) :: (ld, W.listOf lvs.toArray el) :: (mv, W.listOf (mvRefs mvs).toArray em) :: (mvNews mvs ++ FZ)))) ∧ Ap tb td lst tail ((ck, ock) :: (ld, W.listOf lvs.toArray el) :: (mv, W.listOf (mvRefs mvs).toArray em) :: (mvNews mvs ++ FZ)) ∧ D3 tb td ck ld mv (mvNews mvs ++ FZ) ∧ TSt o1 o2 o3 tail ∧ (∃ v, ock.data = .cell v) ∧ HdW wt hs ∧ (∀ q ∈ hdNews hs, q ∈ tail) ∧ IntsAre lvs (lay.map Int.ofNat) ∧ (∀ p ∈ mvNews mvs, ∀ q ∈ FZ, @Ne Nat p.1 q.1)
section
variable {w : World} {kt : Tok} {wt : Nat → Nat} {tb td lst ck ld mv : Addr} {FZ nw : List (Addr × Obj)} {lay : List Nat} {hs : List Hd} {mvs : List Mv}
theorem LawSt.fz (h : LawSt w kt wt tb td lst ck ld mv FZ nw lay hs mvs) : ∀ q ∈ FZ, q ∈ nw := by
  obtain ⟨e, o1, o2, o3, tail, ock, lvs, el, em, rfl, _⟩ := h
  intro q hq
  simp [hq]
theorem LawSt.tbIn (h : LawSt w kt wt tb td lst ck ld mv FZ nw lay hs mvs) : (tb, instObj 239 td) ∈ nw ∧ ∃ o, (td, o) ∈ nw := by
  obtain ⟨e, o1, o2, o3, tail, ock, lvs, el, em, rfl, _⟩ := h
  exact ⟨by simp, _, List.Mem.tail _ (List.Mem.tail _ (List.Mem.tail _ (List.Mem.tail _ (List.Mem.head _))))⟩
theorem LawSt.tdIn (h : LawSt w kt wt tb td lst ck ld mv FZ nw lay hs mvs) : (td, dictOf [{ hash := PyData.keyHash w.params (Str.ofString "_headers"), key := .str (Str.ofString "_headers") kt, val := .ref lst }] 1) ∈ nw := by
  obtain ⟨e, o1, o2, o3, tail, ock, lvs, el, em, rfl, _⟩ := h
  simp
theorem LawSt.ldIn (h : LawSt w kt wt tb td lst ck ld mv FZ nw lay hs mvs) : ∃ lvs el, (ld, W.listOf lvs.toArray el) ∈ nw ∧ IntsAre lvs (lay.map Int.ofNat) := by
  obtain ⟨e, o1, o2, o3, tail, ock, lvs, el, em, rfl, _, _, _, _, _, _, hl, _⟩ := h
  exact ⟨lvs, el, by simp, hl⟩
theorem LawSt.mvIn (h : LawSt w kt wt tb td lst ck ld mv FZ nw lay hs mvs) : ∃ em, (mv, W.listOf (mvRefs mvs).toArray em) ∈ nw := by
  obtain ⟨e, o1, o2, o3, tail, ock, lvs, el, em, rfl, _⟩ := h
  exact ⟨em, by simp⟩
/-- a thing that lies apart is frozen -/
theorem LawSt.freeze {x : Addr} {o : Obj} (h : LawSt w kt wt tb td lst ck ld mv FZ nw lay hs mvs) (off : ∀ p ∈ nw, @Ne Nat p.1 x) : ∃ nw', LawSt w kt wt tb td lst ck ld mv ((x, o) :: FZ) nw' lay hs mvs ∧ ∀ p ∈ nw', p ∈ (x, o) :: nw := by
  obtain ⟨e, o1, o2, o3, tail, ock, lvs, el, em, rfl, hA, hD, hS, hc, hw, hsub, hl, hap⟩ := h
  refine ⟨_, ⟨e, o1, o2, o3, tail, ock, lvs, el, em, rfl, ?_, ?_, hS, hc, hw, hsub, hl, ?_⟩, ?_⟩
  · refine (hA.keep (x := x) (o := o) ⟨Ne.symm (off (76, o1) (by first | (walk_at "mem go") | simp)), Ne.symm (off (83, o2) (by first | (walk_at "mem go") | simp)), Ne.symm (off (48, o3) (by first | (walk_at "mem go") | simp)), Ne.symm (off (lst, W.listOf (hdRefs hs).toArray e) (by first | (walk_at "mem go") | simp))⟩ fun q hq => off q (by first | (walk_at "mem go") | simp [hq])).sub ?_
    walk_at "sub go"
  · refine (hD.cons (q := (x, o)) ⟨Ne.symm (off (ck, ock) (by first | (walk_at "mem go") | simp)), Ne.symm (off (ld, W.listOf lvs.toArray el) (by first | (walk_at "mem go") | simp)), Ne.symm (off (mv, W.listOf (mvRefs mvs).toArray em) (by first | (walk_at "mem go") | simp))⟩).sub ?_
    walk_at "sub go"
  · intro p hp q hq
    rcases List.mem_cons.mp hq with rfl | hq
    · exact off p (by first | (walk_at "mem go") | simp [hp])
    · exact hap p hp q hq
  · walk_at "sub go"
/-- and thawed -/
theorem LawSt.thaw {x : Addr} {o : Obj} (h : LawSt w kt wt tb td lst ck ld mv ((x, o) :: FZ) nw lay hs mvs) (h1 : @Ne Nat tb x) (h2 : @Ne Nat td x) (h3 : ∀ q ∈ FZ, @Ne Nat q.1 x) : ∃ nw', LawSt w kt wt tb td lst ck ld mv FZ nw' lay hs mvs ∧ Off1 x nw' ∧ ∀ p ∈ (x, o) :: nw', p ∈ nw := by
  obtain ⟨e, o1, o2, o3, tail, ock, lvs, el, em, rfl, hA, hD, hS, hc, hw, hsub, hl, hap⟩ := h
  refine ⟨_, ⟨e, o1, o2, o3, tail, ock, lvs, el, em, rfl, hA.sub ?_, hD.sub ?_, hS, hc, hw, hsub, hl, fun p hp q hq => hap p hp q (List.mem_cons_of_mem _ hq)⟩, ?_, ?_⟩
  · walk_at "sub go"
  · walk_at "sub go"
  · have a := hA.2.2.1 (x, o) (by first | (walk_at "mem go") | simp)
    have d := hD.2 (x, o) (by first | (walk_at "mem go") | simp)
    refine off1_of fun p hp => ?_
    simp only [List.mem_cons, List.mem_append] at hp
    rcases hp with rfl | rfl | rfl | rfl | rfl | rfl | hp | rfl | rfl | rfl | hp | hp
    · exact Ne.symm a.1
    · exact Ne.symm a.2.1
    · exact Ne.symm a.2.2.1
    · exact h1
    · exact h2
    · exact Ne.symm a.2.2.2
    · exact hA.2.2.2 p hp (x, o) (by first | (walk_at "mem go") | simp)
    · exact Ne.symm d.1
    · exact Ne.symm d.2.1
    · exact Ne.symm d.2.2
    · exact hap p hp (x, o) (by first | (walk_at "mem go") | simp)
    · exact h3 p hp
  · walk_at "sub go"
theorem l_add {k n : Nat} {up : Bool} {t1 t2 : Tok} {p : Program} {loose : List Str} {mean : ExcName → Option Value} {mg mb : Str → Option Value}
  {dp un : Nat} {gd : Option (List Code)} {cn : Str} {cs : Scope} {a : Addr} {ccd : Value} {cl : List (Str × Addr)} {outer : List Env} {A₀ : Around} {base h₀ : Heap} {L : Addr} {m : Str → Option Value} {s : Shared} {Q E : Value → Shared → Prop}
  (B : Below A₀ base outer h₀) (F : Fr h₀ L s.heap m) (X : (hd.heap_39 w.params).In h₀) (N : News h₀ L s.heap nw) (T : Top p loose mean mg mb h₀) (hk : cs.kind = .function)
  (hL : LawSt w kt wt tb td lst ck ld mv FZ nw lay hs mvs) (hk5 : k < 5) (hn : n = wt k) (hwl : ∀ k < 5, wt k ∈ worthList) (hsz : hs.length < 1000) (hd : dp + 10 < recursionLimit) (hu : un + 100 < cLine)
  (hret : ∀ (h : Hd) (nw' : List (Addr × Obj)) (h' : Heap) (tk' : Nat), h.k = k → Fr h₀ L h' m → News h₀ L h' nw' → LawSt w kt wt tb td lst ck ld mv FZ nw' lay (hs ++ [h]) mvs → Q .none { s with heap := h', toks := tk' }) :
  wpAny (model Challenge.rw_ny0343_01.row.prog w) (ktrTop dp un gd cn cs L a ccd cl outer) (call (.ref 236) [.ref tb, .str (nmOf k up) t1, .str (num n) t2]) Q E s := by
  obtain ⟨e, o1, o2, o3, tail, ock, lvs, el, em, rfl, hA, hD, hS, hc, hw, hsub, hl, hap⟩ := hL
  subst hn
  refine d_add B F X N T hk hA hk5 (hwl k hk5) hsz hd hu ?_
  intro h e' h' tk' hhk hhn F' N' hA'
  refine hret h _ h' tk' hhk F' N' ⟨e', o1, o2, o3, _, ock, lvs, el, em, rfl, hA', hD, hS.cons, hc, ?_, ?_, hl, hap⟩
  · intro x hx
    rcases List.mem_append.mp hx with hx | hx
    · exact hw x hx
    · rw [List.mem_singleton.mp hx, hhk, hhn]; exact ⟨hk5, rfl⟩
  · intro q hq
    rw [hdNews, List.map_append] at hq
    rcases List.mem_append.mp hq with hq | hq
    · exact List.mem_cons_of_mem _ (hsub q hq)
    · rw [List.map_singleton] at hq
      rw [List.mem_singleton.mp hq]
      exact List.mem_cons_self
theorem l_carry {b : Nat → Nat} {bits wits : Array Value} {bl : Addr} {eb : Nat} {k : Nat} {tk : Tok} {p : Program} {loose : List Str} {mean : ExcName → Option Value} {mg mb : Str → Option Value}
  {dp un : Nat} {gd : Option (List Code)} {cn : Str} {cs : Scope} {a : Addr} {ccd : Value} {cl : List (Str × Addr)} {outer : List Env} {A₀ : Around} {base h₀ : Heap} {L : Addr} {m : Str → Option Value} {s : Shared} {Q E : Value → Shared → Prop}
  (B : Below A₀ base outer h₀) (F : Fr h₀ L s.heap m) (X : (hd.heap_39 w.params).In h₀) (N : News h₀ L s.heap nw) (T : Top p loose mean mg mb h₀) (hk : cs.kind = .function)
  (hL : LawSt w kt wt tb td lst ck ld mv FZ nw lay hs mvs) (h5 : Five b wt bits wits) (hbl : (bl, W.listOf bits eb) ∈ FZ) (hk4 : k < 4) (hsz : hs.length ≤ 31) (C76 : CodeHd base 80 76) (C83 : CodeHd base 87 83) (C48 : CodeHd base 52 48) (hd : dp + 50 < recursionLimit) (hu : un + 400 < cLine)
  (hret : ∀ (tv : Tok) (hs' : List Hd) (nw' : List (Addr × Obj)) (h' : Heap) (tk' : Nat) (dr' : Drawn), Fr h₀ L h' m → News h₀ L h' nw' → LawSt w kt wt tb td lst ck ld mv FZ nw' lay hs' mvs → hs'.length ≤ hs.length → (∀ j, cnt hs' j = if j = k then cnt hs k % b k else if j = k + 1 then cnt hs (k + 1) + cnt hs k / b k else cnt hs j) → Q (.int (cnt hs k / b k : Nat) tv) { s with heap := h', drawn := dr', toks := tk' }) :
  wpAny (model Challenge.rw_ny0343_01.row.prog w) (ktrTop dp un gd cn cs L a ccd cl outer) (call (.ref 248) [.ref tb, .ref bl, .int k tk]) Q E s := by
  obtain ⟨e, o1, o2, o3, tail, ock, lvs, el, em, rfl, hA, hD, hS, hc, hw, hsub, hl, hap⟩ := hL
  obtain ⟨ub, hub⟩ := h5.hbit k hk4
  refine c_carry (eb := eb) (bits := bits) B F X N T hk hA hS hk4 hub (h5.hb0 k hk4) (h5.hb1 k hk4) (by first | (walk_at "mem go") | simp [hbl]) hw h5.hwl (h5.hw k hk4) hsub hsz C76 C83 C48 hd hu ?_
  intro tv hs' e' o1' o2' o3' tail' h' tk' dr' F' N' hA' hS' hw' hsub' hlen hcnt
  exact hret tv hs' _ h' tk' dr' F' N' ⟨e', o1', o2', o3', tail', ock, lvs, el, em, rfl, hA', hD, hS', hc, hw', hsub', hl, hap⟩ hlen hcnt
end
section
variable {w : World} {kt : Tok} {wt : Nat → Nat} {tb td lst ck ld mv : Addr} {FZ nw : List (Addr × Obj)} {lay : List Nat} {hs : List Hd} {mvs : List Mv} {prog : Program} {w' : World} {A : Around} {E : Value → Shared → Prop} {s : Shared} {h₀ : Heap} {L : Addr} {m : Str → Option Value}
theorem l_push_ld {p : Nat} {t : Tok} {Q : Value → Shared → Prop} (F : Fr h₀ L s.heap m) (N : News h₀ L s.heap nw) (hL : LawSt w kt wt tb td lst ck ld mv FZ nw lay hs mvs) (hsz : lay.length ≤ 100)
    (h : ∀ h' nw', Fr h₀ L h' m → News h₀ L h' nw' → LawSt w kt wt tb td lst ck ld mv FZ nw' (lay ++ [p]) hs mvs → Q .none { s with heap := h' }) : wpAny (model prog w') A (call (.builtin "list.append") [.ref ld, .int (p : Nat) t]) Q E s := by
  obtain ⟨e, o1, o2, o3, tail, ock, lvs, el, em, rfl, hA, hD, hS, hc, hw, hsub, hl, hap⟩ := hL
  have hll : lvs.length = lay.length := by rw [hl.length, List.length_map]
  refine append_own F (news_sub N (l' := ((ld, W.listOf lvs.toArray el) :: ((76, o1) :: (83, o2) :: (48, o3) :: (tb, instObj 239 td) :: (td, dictOf [{ hash := PyData.keyHash w.params (Str.ofString "_headers"), key := .str (Str.ofString "_headers") kt, val := .ref lst }] 1) :: (lst, W.listOf (hdRefs hs).toArray e) :: (tail ++ ((ck, ock) :: (mv, W.listOf (mvRefs mvs).toArray em) :: (mvNews mvs ++ FZ)))))) ?sub) (ne_ld hA hD) (by omega) ?_
  case sub => walk_at "sub go"
  intro h' F' N'
  refine h h' _ F' (news_sub N' ?sub) ⟨e, o1, o2, o3, tail, ock, lvs ++ [.int (p : Nat) t], el + 1, em, rfl, hA.three, hD, hS, hc, hw, hsub, ?_, hap⟩
  case sub => walk_at "sub go"
  rw [List.map_append]
  exact ints_snoc hl _ t
theorem l_push_mv {x : Mv} {Q : Value → Shared → Prop} (F : Fr h₀ L s.heap m) (N : News h₀ L s.heap nw) (Nx : News h₀ L s.heap [(x.a, mvObj x)]) (hL : LawSt w kt wt tb td lst ck ld mv FZ nw lay hs mvs) (fresh : ∀ p ∈ nw, @LT.lt Nat _ p.1 x.a) (hsz : mvs.length ≤ 100)
    (h : ∀ h' nw', Fr h₀ L h' m → News h₀ L h' nw' → LawSt w kt wt tb td lst ck ld mv FZ nw' lay hs (mvs ++ [x]) → Q .none { s with heap := h' }) : wpAny (model prog w') A (call (.builtin "list.append") [.ref mv, .ref x.a]) Q E s := by
  obtain ⟨e, o1, o2, o3, tail, ock, lvs, el, em, rfl, hA, hD, hS, hc, hw, hsub, hl, hap⟩ := hL
  have fr : ∀ p ∈ ((76, o1) :: (83, o2) :: (48, o3) :: (tb, instObj 239 td) :: (td, dictOf [{ hash := PyData.keyHash w.params (Str.ofString "_headers"), key := .str (Str.ofString "_headers") kt, val := .ref lst }] 1) :: (lst, W.listOf (hdRefs hs).toArray e) :: (tail ++ ((ck, ock) :: (ld, W.listOf lvs.toArray el) :: (mv, W.listOf (mvRefs mvs).toArray em) :: (mvNews mvs ++ FZ)))), @Ne Nat p.1 x.a := fun p hp => Nat.ne_of_lt (fresh p hp)
  have hA1 := (hA.keep (x := x.a) (o := mvObj x) ⟨Ne.symm (fr (76, o1) (by first | (walk_at "mem go") | simp)), Ne.symm (fr (83, o2) (by first | (walk_at "mem go") | simp)), Ne.symm (fr (48, o3) (by first | (walk_at "mem go") | simp)), Ne.symm (fr (lst, W.listOf (hdRefs hs).toArray e) (by first | (walk_at "mem go") | simp))⟩ fun q hq => fr q (by first | (walk_at "mem go") | simp [hq])).sub (keep' := (ck, ock) :: (ld, W.listOf lvs.toArray el) :: (mv, W.listOf (mvRefs mvs).toArray em) :: (mvNews (mvs ++ [x]) ++ FZ)) (by
    rw [mvNews, List.map_append, List.map_singleton, ← mvNews, List.append_assoc, List.singleton_append]; walk_at "sub go")
  have hD1 := (hD.cons (q := (x.a, mvObj x)) ⟨Ne.symm (fr (ck, ock) (by first | (walk_at "mem go") | simp)), Ne.symm (fr (ld, W.listOf lvs.toArray el) (by first | (walk_at "mem go") | simp)), Ne.symm (fr (mv, W.listOf (mvRefs mvs).toArray em) (by first | (walk_at "mem go") | simp))⟩).sub (K3 := mvNews (mvs ++ [x]) ++ FZ) (by
    rw [mvNews, List.map_append, List.map_singleton, ← mvNews, List.append_assoc, List.singleton_append]; walk_at "sub go")
  have N1 : News h₀ L s.heap ((x.a, mvObj x) :: ((76, o1) :: (83, o2) :: (48, o3) :: (tb, instObj 239 td) :: (td, dictOf [{ hash := PyData.keyHash w.params (Str.ofString "_headers"), key := .str (Str.ofString "_headers") kt, val := .ref lst }] 1) :: (lst, W.listOf (hdRefs hs).toArray e) :: (tail ++ ((ck, ock) :: (ld, W.listOf lvs.toArray el) :: (mv, W.listOf (mvRefs mvs).toArray em) :: (mvNews mvs ++ FZ))))) := fun p hp => by
    rcases List.mem_cons.mp hp with rfl | hp
    · exact Nx _ (by first | (walk_at "mem go") | simp)
    · exact N p hp
  refine append_own F (news_sub N1 (l' := ((mv, W.listOf (mvRefs mvs).toArray em) :: ((76, o1) :: (83, o2) :: (48, o3) :: (tb, instObj 239 td) :: (td, dictOf [{ hash := PyData.keyHash w.params (Str.ofString "_headers"), key := .str (Str.ofString "_headers") kt, val := .ref lst }] 1) :: (lst, W.listOf (hdRefs hs).toArray e) :: (tail ++ ((ck, ock) :: (ld, W.listOf lvs.toArray el) :: (mvNews (mvs ++ [x]) ++ FZ)))))) ?sub) (ne_mv hA1 hD1) (by rw [mvRefs, List.length_map]; omega) ?_
  case sub => rw [mvNews, List.map_append, List.map_singleton, ← mvNews, List.append_assoc, List.singleton_append]; walk_at "sub go"
  intro h' F' N'
  have er : mvRefs mvs ++ [.ref x.a] = mvRefs (mvs ++ [x]) := by simp [mvRefs]
  rw [er] at N'
  refine h h' _ F' (news_sub N' ?sub) ⟨e, o1, o2, o3, tail, ock, lvs, el, em + 1, rfl, hA1.three, hD1, hS, hc, hw, hsub, hl, ?_⟩
  case sub => walk_at "sub go"
  intro p hp q hq
  rw [mvNews, List.map_append] at hp
  rcases List.mem_append.mp hp with hp | hp
  · exact hap p hp q hq
  · rw [List.map_singleton] at hp
    rw [List.mem_singleton.mp hp]
    exact Ne.symm (fr q (by first | (walk_at "mem go") | simp [hq]))
theorem l_store_k {cn : Str} {cs : Scope} {a : Addr} {ccd : Value} {cl : List (Str × Addr)} {x : Str} {v : Value} {M : Model} {Q : Unit → Shared → Prop} (F : Fr h₀ L s.heap m) (N : News h₀ L s.heap nw) (hL : LawSt w kt wt tb td lst ck ld mv FZ nw lay hs mvs) (hcl : cl.lookup x = some ck) (hk : cs.kind = .function) (hx : (envX cn cs L a ccd cl).kindOf x = some .cell)
    (h : ∀ h' nw' o', Fr h₀ L h' m → News h₀ L h' ((ck, o') :: nw') → o'.data = .cell (some v) → LawSt w kt wt tb td lst ck ld mv FZ nw' lay hs mvs → Q () { s with heap := h' }) : wpAny M A (storeName (envX cn cs L a ccd cl) x v) Q E s := by
  obtain ⟨e, o1, o2, o3, tail, ock, lvs, el, em, rfl, hA, hD, hS, hc, hw, hsub, hl, hap⟩ := hL
  refine store_own F (news_sub N (l' := ((ck, ock) :: ((76, o1) :: (83, o2) :: (48, o3) :: (tb, instObj 239 td) :: (td, dictOf [{ hash := PyData.keyHash w.params (Str.ofString "_headers"), key := .str (Str.ofString "_headers") kt, val := .ref lst }] 1) :: (lst, W.listOf (hdRefs hs).toArray e) :: (tail ++ ((ld, W.listOf lvs.toArray el) :: (mv, W.listOf (mvRefs mvs).toArray em) :: (mvNews mvs ++ FZ)))))) ?sub) (ne_ck hA hD) hc hcl hk hx ?_
  case sub => walk_at "sub go"
  intro h' o' F' N' ho'
  refine h h' _ o' F' (news_sub N' ?sub) ho' ⟨e, o1, o2, o3, tail, o', lvs, el, em, rfl, hA.three, hD, hS, ⟨_, ho'⟩, hw, hsub, hl, hap⟩
  walk_at "sub go"
end
end PartLz
section PartC15
section
theorem law_C {w : World} {p : Program} {loose : List Str} {mean : ExcName → Option Value} {mg mb : Str → Option Value}
  {b wt : Nat → Nat} {bits wits : Array Value} {eb ew : Nat} {hs : List Hd} {kt : Tok} {tb td lst bl wl ld mv sc : Addr} {ocw : Obj} {lay : List Nat} {mvs : List Mv} {FZ nw : List (Addr × Obj)} {svs : List Value} {sns : List Int}
  {dp un : Nat} {gd : Option (List Code)} {cn : Str} {a : Addr} {ccd : Value} {cf ck cw : Addr} {outer : List Env} {A₀ : Around} {base h₀ : Heap} {L : Addr} {m : Str → Option Value} {s : Shared} {Q : Flow → Shared → Prop} {E : Value → Shared → Prop}
  (B : Below A₀ base outer h₀) (F : Fr h₀ L s.heap (fun y => if y = Str.ofString "moves" then some (.ref mv) else if y = Str.ofString "laid" then some (.ref ld) else if y = Str.ofString "table" then some (.ref tb) else if y = Str.ofString "bases" then some (.ref bl) else if y = Str.ofString "script" then some (.ref sc) else m y)) (X : (hd.heap_39 w.params).In h₀) (N : News h₀ L s.heap nw) (T : Top p loose mean mg mb h₀)
  (hL : LawSt w kt wt tb td lst ck ld mv FZ nw lay hs mvs) (h5 : Five b wt bits wits) (hbl : (bl, W.listOf bits eb) ∈ FZ) (hwl : (wl, W.listOf wits ew) ∈ FZ) (hcw : (cw, ocw) ∈ FZ) (hocw : ocw.data = .cell (some (.ref wl))) (hsc : h₀.IsList sc svs.toArray) (hsi : IntsAre svs sns) (C76 : CodeHd base 80 76) (C83 : CodeHd base 87 83) (C48 : CodeHd base 52 48) (hd : dp + 60 < recursionLimit) (hu : un + 500 < cLine)(hl5 : ∀ x ∈ lay, x < 5) (hhl : hs.length ≤ lay.length) (hI : Inv b (cnt hs) lay (mvPairs mvs)) (hlay : lay.length ≤ 23) (hml : mvs.length ≤ 23)
  (hret : ∀ (m' : Str → Option Value) (o1' o2' o3' : Obj) (tl tl' : List (Addr × Obj)) (h' : Heap) (tk' : Nat) (dr' : Drawn), Fr h₀ L h' m' → News h₀ L h' ((76, o1') :: (83, o2') :: (48, o3') :: tl) → TSt o1' o2' o3' tl' → Q (.ret (.bool true)) { s with heap := h', drawn := dr', toks := tk' }) :
  wpAny (model Challenge.rw_ny0343_01.row.prog w) (ktrTop dp un gd cn lawScope L a ccd [(Str.ofString "worths", cw), (Str.ofString "k", ck), (Str.ofString "first", cf)] outer) (execs (lawPart 8) (envX cn lawScope L a ccd [(Str.ofString "worths", cw), (Str.ofString "k", ck), (Str.ofString "first", cf)])) Q E s := by
  have eS : lawScope = { kind := _, names := _, isGenerator := _, isCoroutine := _, more := _ } := rfl
  rw [eS]
  clear eS
  have eP : lawPart 8 = _ :: _ := rfl
  rw [eP]
  clear eP
  revert X
  w_top off
  k_fill
  intro X
  repeat' ((fail_if_success (with_reducible show wpAny _ _ (call (Value.ref 178) _) _ _ _)); (fail_if_success (with_reducible show wpAny _ _ (call (Value.ref 95) _) _ _ _)); (fail_if_success (with_reducible show wpAny _ _ (call (Value.ref 159) _) _ _ _)); (fail_if_success (with_reducible show wpAny _ _ (call (Value.ref 236) _) _ _ _)); (fail_if_success (with_reducible show wpAny _ _ (call (Value.ref 60) _) _ _ _)); (fail_if_success (with_reducible show LpSrc _ _ _ _ _ _ _ _ _ _ _)); (fail_if_success (with_reducible show wpAny _ _ (binaryOp Operator.FloorDiv _ _) _ _ _)); (fail_if_success (with_reducible show wpAny _ _ (inplaceOp Operator.FloorDiv _ _) _ _ _)); (fail_if_success (with_reducible show wpAny _ _ (binaryOp Operator.Mod _ _) _ _ _)); (fail_if_success (with_reducible show wpAny _ _ (binaryOp Operator.Mult (Value.ref _) _) _ _ _)); (fail_if_success (with_reducible show wpAny _ _ (compareOp _ (Value.ref _) (Value.ref _)) _ _ _)); (fail_if_success (with_reducible show wpAny _ _ (call (Value.builtin "list.append") _) _ _ _)); (fail_if_success (with_reducible show wpAny _ _ (subscriptTail _ _ (Value.ref _) (Value.int (Int.fmod _ _) _)) _ _ _)); (fail_if_success (with_reducible show CtSrc _ _ _ _ _ _ _ _ _ _ _ _ _ _ _ _ _ _ _ _ _)); (fail_if_success (with_reducible show wpAny _ _ (call (Value.ref 248) _) _ _ _)); (fail_if_success (with_reducible show wpAny _ _ (call (Value.builtin "sum") _) _ _ _)); (fail_if_success (with_reducible show wpAny _ _ (call (Value.builtin "list.count") _) _ _ _)); (fail_if_success (with_reducible show wpAny _ _ (call (Value.type "str") _) _ _ _)); (fail_if_success (with_reducible show CpSrc _ _ _ _ _ _ _ _ _ _ _ _ _ _ _)); first | (k_unfold; (try dsimp only)) | (k_end; wrow_close) | walk1 | (dsimp only; walk1) | (leave1; walk_say "STEP leave1"; try dsimp only) | fail "no step")
  (rename Fr _ _ _ _ => F14)
  (rename News _ _ _ _ => N14)
  k_dflt (refine LpSrc.rangeS (n := 4) (by rfl) F14 N14 (by assumption) (by decide) (by decide) (fun n m' nw' => (∃ vt, ∀ y, m' y = (fun y => if y = Str.ofString "moves" then some (.ref mv) else if y = Str.ofString "laid" then some (.ref ld) else if y = Str.ofString "table" then some (.ref tb) else if y = Str.ofString "bases" then some (.ref bl) else if y = Str.ofString "script" then some (.ref sc) else if y = Str.ofString "turn" then vt else m y) y) ∧ ∃ hs' mvs', LawSt w kt wt tb td lst ck ld mv FZ nw' lay hs' mvs' ∧ hs'.length ≤ lay.length ∧ Inv b (cnt hs') lay (mvPairs mvs') ∧ Lo b (cnt hs') n ∧ mvs'.length = mvs.length + 4 * n) ?jj ?tt ?ff)
  case jj => exact ⟨⟨m (Str.ofString "turn"), fun y => (by by_cases hy0 : y = Str.ofString "turn"; (case pos => (subst hy0; rfl)); by_cases hy1 : y = Str.ofString "moves"; (case pos => (subst hy1; rfl)); by_cases hy2 : y = Str.ofString "laid"; (case pos => (subst hy2; rfl)); by_cases hy3 : y = Str.ofString "table"; (case pos => (subst hy3; rfl)); by_cases hy4 : y = Str.ofString "bases"; (case pos => (subst hy4; rfl)); by_cases hy5 : y = Str.ofString "script"; (case pos => (subst hy5; rfl)); simp only [hy0, hy1, hy2, hy3, hy4, hy5, if_false])⟩, hs, mvs, hL, hhl, hI, (fun k hk => absurd hk (Nat.not_lt_zero k)), by omega⟩
  case ff =>
    intro h8 tk8 dr8 m8 news8 F8 N8 hJ8
    obtain ⟨⟨vt, hm⟩, hs8, mvs8, hL8, hhl8, hI8, hLo8, hml8⟩ := hJ8
    have F9 := fr_congr F8 hm
    clear F8 hm
    obtain ⟨e, o1, o2, o3, tail, ock, lvs, el, em, rfl, hA, hD, hS, hc, hw, hsub, hl, hap⟩ := hL8
    dsimp only
    k_dflt (refine law_D (eb := eb) (ew := ew) B F9 X N8 T hA hD hS h5 (by first | (walk_at "mem go") | simp [hbl]) (by first | (walk_at "mem go") | simp [hwl]) (by first | (walk_at "mem go") | simp [hcw]) hocw hc hw hsub (fun q hq => by first | (walk_at "mem go") | simp [hq]) hl hl5 (by omega) hI8 C76 C83 C48 hd hu (by omega) (by omega) hLo8 ?_)
    intro m9 o1' o2' o3' tl tl' h9 tk9 dr9 F9 N9 hS9
    exact hret m9 o1' o2' o3' tl tl' h9 tk9 dr9 F9 N9 hS9
  intro I i v m₁ news₁ oI h tk dr Q' E' hi hP hJ off F8 N8 k8
  obtain ⟨⟨vt, hm⟩, hs8, mvs8, hL8, hhl8, hI8, hLo8, hml8⟩ := hJ
  obtain ⟨ti, rfl⟩ := hP
  have F9 := fr_congr F8 hm
  clear F8 hm
  have offm := off1_mem off
  obtain ⟨nw1, hL1, sub1⟩ := hL8.freeze (o := oI) offm
  replace N8 := news_sub N8 sub1
  dsimp only
  repeat' ((fail_if_success (with_reducible show wpAny _ _ (call (Value.ref 178) _) _ _ _)); (fail_if_success (with_reducible show wpAny _ _ (call (Value.ref 95) _) _ _ _)); (fail_if_success (with_reducible show wpAny _ _ (call (Value.ref 159) _) _ _ _)); (fail_if_success (with_reducible show wpAny _ _ (call (Value.ref 236) _) _ _ _)); (fail_if_success (with_reducible show wpAny _ _ (call (Value.ref 60) _) _ _ _)); (fail_if_success (with_reducible show LpSrc _ _ _ _ _ _ _ _ _ _ _)); (fail_if_success (with_reducible show wpAny _ _ (binaryOp Operator.FloorDiv _ _) _ _ _)); (fail_if_success (with_reducible show wpAny _ _ (inplaceOp Operator.FloorDiv _ _) _ _ _)); (fail_if_success (with_reducible show wpAny _ _ (binaryOp Operator.Mod _ _) _ _ _)); (fail_if_success (with_reducible show wpAny _ _ (binaryOp Operator.Mult (Value.ref _) _) _ _ _)); (fail_if_success (with_reducible show wpAny _ _ (compareOp _ (Value.ref _) (Value.ref _)) _ _ _)); (fail_if_success (with_reducible show wpAny _ _ (call (Value.builtin "list.append") _) _ _ _)); (fail_if_success (with_reducible show wpAny _ _ (subscriptTail _ _ (Value.ref _) (Value.int (Int.fmod _ _) _)) _ _ _)); (fail_if_success (with_reducible show CtSrc _ _ _ _ _ _ _ _ _ _ _ _ _ _ _ _ _ _ _ _ _)); (fail_if_success (with_reducible show wpAny _ _ (call (Value.ref 248) _) _ _ _)); (fail_if_success (with_reducible show wpAny _ _ (call (Value.builtin "sum") _) _ _ _)); (fail_if_success (with_reducible show wpAny _ _ (call (Value.builtin "list.count") _) _ _ _)); (fail_if_success (with_reducible show wpAny _ _ (call (Value.type "str") _) _ _ _)); (fail_if_success (with_reducible show CpSrc _ _ _ _ _ _ _ _ _ _ _ _ _ _ _)); first | (k_unfold; (try dsimp only)) | (k_end; wrow_close) | walk1 | (dsimp only; walk1) | (leave1; walk_say "STEP leave1"; try dsimp only) | fail "no step")
  (rename Fr _ _ _ _ => F10)
  (rename News _ _ _ _ => N10)
  k_dflt (refine PyProof.Rows.LSm.sum_ints F10 N10 (by rfl) (isList_up hsc F10) hsi ?_)
  intro h11 tk11 t11 F11 N11
  dsimp only
  repeat' ((fail_if_success (with_reducible show wpAny _ _ (call (Value.ref 178) _) _ _ _)); (fail_if_success (with_reducible show wpAny _ _ (call (Value.ref 95) _) _ _ _)); (fail_if_success (with_reducible show wpAny _ _ (call (Value.ref 159) _) _ _ _)); (fail_if_success (with_reducible show wpAny _ _ (call (Value.ref 236) _) _ _ _)); (fail_if_success (with_reducible show wpAny _ _ (call (Value.ref 60) _) _ _ _)); (fail_if_success (with_reducible show LpSrc _ _ _ _ _ _ _ _ _ _ _)); (fail_if_success (with_reducible show wpAny _ _ (binaryOp Operator.FloorDiv _ _) _ _ _)); (fail_if_success (with_reducible show wpAny _ _ (inplaceOp Operator.FloorDiv _ _) _ _ _)); (fail_if_success (with_reducible show wpAny _ _ (binaryOp Operator.Mod _ _) _ _ _)); (fail_if_success (with_reducible show wpAny _ _ (binaryOp Operator.Mult (Value.ref _) _) _ _ _)); (fail_if_success (with_reducible show wpAny _ _ (compareOp _ (Value.ref _) (Value.ref _)) _ _ _)); (fail_if_success (with_reducible show wpAny _ _ (call (Value.builtin "list.append") _) _ _ _)); (fail_if_success (with_reducible show wpAny _ _ (subscriptTail _ _ (Value.ref _) (Value.int (Int.fmod _ _) _)) _ _ _)); (fail_if_success (with_reducible show CtSrc _ _ _ _ _ _ _ _ _ _ _ _ _ _ _ _ _ _ _ _ _)); (fail_if_success (with_reducible show wpAny _ _ (call (Value.ref 248) _) _ _ _)); (fail_if_success (with_reducible show wpAny _ _ (call (Value.builtin "sum") _) _ _ _)); (fail_if_success (with_reducible show wpAny _ _ (call (Value.builtin "list.count") _) _ _ _)); (fail_if_success (with_reducible show wpAny _ _ (call (Value.type "str") _) _ _ _)); (fail_if_success (with_reducible show CpSrc _ _ _ _ _ _ _ _ _ _ _ _ _ _ _)); first | (k_unfold; (try dsimp only)) | (k_end; wrow_close) | walk1 | (dsimp only; walk1) | (leave1; walk_say "STEP leave1"; try dsimp only) | fail "no step")
  k_dflt (refine mod_int' (by decide) ?_)
  repeat' ((fail_if_success (with_reducible show wpAny _ _ (call (Value.ref 178) _) _ _ _)); (fail_if_success (with_reducible show wpAny _ _ (call (Value.ref 95) _) _ _ _)); (fail_if_success (with_reducible show wpAny _ _ (call (Value.ref 159) _) _ _ _)); (fail_if_success (with_reducible show wpAny _ _ (call (Value.ref 236) _) _ _ _)); (fail_if_success (with_reducible show wpAny _ _ (call (Value.ref 60) _) _ _ _)); (fail_if_success (with_reducible show LpSrc _ _ _ _ _ _ _ _ _ _ _)); (fail_if_success (with_reducible show wpAny _ _ (binaryOp Operator.FloorDiv _ _) _ _ _)); (fail_if_success (with_reducible show wpAny _ _ (inplaceOp Operator.FloorDiv _ _) _ _ _)); (fail_if_success (with_reducible show wpAny _ _ (binaryOp Operator.Mod _ _) _ _ _)); (fail_if_success (with_reducible show wpAny _ _ (binaryOp Operator.Mult (Value.ref _) _) _ _ _)); (fail_if_success (with_reducible show wpAny _ _ (compareOp _ (Value.ref _) (Value.ref _)) _ _ _)); (fail_if_success (with_reducible show wpAny _ _ (call (Value.builtin "list.append") _) _ _ _)); (fail_if_success (with_reducible show wpAny _ _ (subscriptTail _ _ (Value.ref _) (Value.int (Int.fmod _ _) _)) _ _ _)); (fail_if_success (with_reducible show CtSrc _ _ _ _ _ _ _ _ _ _ _ _ _ _ _ _ _ _ _ _ _)); (fail_if_success (with_reducible show wpAny _ _ (call (Value.ref 248) _) _ _ _)); (fail_if_success (with_reducible show wpAny _ _ (call (Value.builtin "sum") _) _ _ _)); (fail_if_success (with_reducible show wpAny _ _ (call (Value.builtin "list.count") _) _ _ _)); (fail_if_success (with_reducible show wpAny _ _ (call (Value.type "str") _) _ _ _)); (fail_if_success (with_reducible show CpSrc _ _ _ _ _ _ _ _ _ _ _ _ _ _ _)); first | (k_unfold; (try dsimp only)) | (k_end; wrow_close) | walk1 | (dsimp only; walk1) | (leave1; walk_say "STEP leave1"; try dsimp only) | fail "no step")
  k_dflt (refine item_two (by k_asm) (by k_mem) ?_)
  intro ks hks
  have N12 := news_sub N11 (l' := nw1) (by walk_at "sub go")
  have hkf : ∀ p ∈ nw1, @LT.lt Nat _ p.1 ks := by
    rcases hks with rfl | rfl
    · assumption
    · exact fun p hp => allLt_lt (‹_ ∧ AllLt ks nw1›).2 p hp
  obtain ⟨kvs, kns, hkN, hki, hkl, hk4, hka⟩ : ∃ (kvs : List Value) (kns : List Nat), News h₀ L h11 [(ks, W.listOf kvs.toArray 0)] ∧ IntsAre kvs (kns.map Int.ofNat) ∧ kns.length = 4 ∧ (∀ k ∈ kns, k < 4) ∧ (∀ n < 4, n ∈ kns) := by
    rcases hks with rfl | rfl
    · exact ⟨[_, _, _, _], [0, 1, 2, 3], fun p hp => N11 p (by rw [List.mem_singleton.mp hp]; k_mem), .cons _ _ (.cons _ _ (.cons _ _ (.cons _ _ .nil))), rfl, by decide, by decide⟩
    · exact ⟨[_, _, _, _], [3, 2, 1, 0], fun p hp => N11 p (by rw [List.mem_singleton.mp hp]; k_mem), .cons _ _ (.cons _ _ (.cons _ _ (.cons _ _ .nil))), rfl, by decide, by decide⟩
  clear hks N11
  have hkv : kvs.length = 4 := by rw [hki.length, List.length_map, hkl]
  obtain ⟨nw2, hL2, sub2⟩ := hL1.freeze (x := ks) (o := W.listOf kvs.toArray 0) (fun p hp => Nat.ne_of_lt (hkf p hp))
  have N13 : News h₀ L h11 nw2 := fun p hp => by
    rcases List.mem_cons.mp (sub2 p hp) with rfl | hp
    · exact hkN _ (by first | (walk_at "mem go") | simp)
    · exact N12 p hp
  k_dflt (refine LpSrc.listS (its := kvs.toArray) (by rfl) F11 N13 (fun j m' nw' => (∀ y, m' y = (fun y => if y = Str.ofString "moves" then some (.ref mv) else if y = Str.ofString "laid" then some (.ref ld) else if y = Str.ofString "table" then some (.ref tb) else if y = Str.ofString "bases" then some (.ref bl) else if y = Str.ofString "script" then some (.ref sc) else if y = Str.ofString "turn" then some (.int (0 + (i : Int)) ti) else m y) y) ∧ ∃ hs' mvs', LawSt w kt wt tb td lst ck ld mv ((ks, W.listOf kvs.toArray 0) :: (I, oI) :: FZ) nw' lay hs' mvs' ∧ hs'.length ≤ lay.length ∧ Inv b (cnt hs') lay (mvPairs mvs') ∧ Lo b (cnt hs') i ∧ (i ∈ kns.take j → Lo b (cnt hs') (i + 1)) ∧ mvs'.length = mvs8.length + j) ?js ?j0 ?tn ?fn)
  case js =>
    rintro j m' nw' ⟨_, hs', mvs', hL', _⟩
    exact .inr ⟨W.listOf kvs.toArray 0, hL'.fz _ (by first | (walk_at "mem go") | simp), rfl, _, rfl⟩
  case j0 => exact ⟨fun y => (by by_cases hy0 : y = Str.ofString "turn"; (case pos => (subst hy0; rfl)); by_cases hy1 : y = Str.ofString "moves"; (case pos => (subst hy1; rfl)); by_cases hy2 : y = Str.ofString "laid"; (case pos => (subst hy2; rfl)); by_cases hy3 : y = Str.ofString "table"; (case pos => (subst hy3; rfl)); by_cases hy4 : y = Str.ofString "bases"; (case pos => (subst hy4; rfl)); by_cases hy5 : y = Str.ofString "script"; (case pos => (subst hy5; rfl)); simp only [hy0, hy1, hy2, hy3, hy4, hy5, if_false]), hs8, mvs8, hL2, hhl8, hI8, hLo8, (fun hh => absurd hh (by first | (walk_at "mem go") | simp)), rfl⟩
  case fn =>
    intro h30 tk30 dr30 m30 news30 F30 N30 hJ30
    obtain ⟨hm30, hs30, mvs30, hL30, hhl30, hI30, hLo30, hLn30, hml30⟩ := hJ30
    replace F30 := fr_congr F30 hm30
    dsimp only
    repeat' ((fail_if_success (with_reducible show wpAny _ _ (call (Value.ref 178) _) _ _ _)); (fail_if_success (with_reducible show wpAny _ _ (call (Value.ref 95) _) _ _ _)); (fail_if_success (with_reducible show wpAny _ _ (call (Value.ref 159) _) _ _ _)); (fail_if_success (with_reducible show wpAny _ _ (call (Value.ref 236) _) _ _ _)); (fail_if_success (with_reducible show wpAny _ _ (call (Value.ref 60) _) _ _ _)); (fail_if_success (with_reducible show LpSrc _ _ _ _ _ _ _ _ _ _ _)); (fail_if_success (with_reducible show wpAny _ _ (binaryOp Operator.FloorDiv _ _) _ _ _)); (fail_if_success (with_reducible show wpAny _ _ (inplaceOp Operator.FloorDiv _ _) _ _ _)); (fail_if_success (with_reducible show wpAny _ _ (binaryOp Operator.Mod _ _) _ _ _)); (fail_if_success (with_reducible show wpAny _ _ (binaryOp Operator.Mult (Value.ref _) _) _ _ _)); (fail_if_success (with_reducible show wpAny _ _ (compareOp _ (Value.ref _) (Value.ref _)) _ _ _)); (fail_if_success (with_reducible show wpAny _ _ (call (Value.builtin "list.append") _) _ _ _)); (fail_if_success (with_reducible show wpAny _ _ (subscriptTail _ _ (Value.ref _) (Value.int (Int.fmod _ _) _)) _ _ _)); (fail_if_success (with_reducible show CtSrc _ _ _ _ _ _ _ _ _ _ _ _ _ _ _ _ _ _ _ _ _)); (fail_if_success (with_reducible show wpAny _ _ (call (Value.ref 248) _) _ _ _)); (fail_if_success (with_reducible show wpAny _ _ (call (Value.builtin "sum") _) _ _ _)); (fail_if_success (with_reducible show wpAny _ _ (call (Value.builtin "list.count") _) _ _ _)); (fail_if_success (with_reducible show wpAny _ _ (call (Value.type "str") _) _ _ _)); (fail_if_success (with_reducible show CpSrc _ _ _ _ _ _ _ _ _ _ _ _ _ _ _)); first | (k_unfold; (try dsimp only)) | (k_end; wrow_close) | walk1 | (dsimp only; walk1) | (leave1; walk_say "STEP leave1"; try dsimp only) | fail "no step")
    obtain ⟨nw31, hL31, off31, sub31⟩ := hL30.thaw (Nat.ne_of_lt (hkf _ hL1.tbIn.1)) (by obtain ⟨o, ho⟩ := hL1.tbIn.2; exact Nat.ne_of_lt (hkf _ ho)) (fun q hq => Nat.ne_of_lt (hkf _ (hL1.fz q hq)))
    obtain ⟨nw32, hL32, off32, sub32⟩ := hL31.thaw (offm _ hL8.tbIn.1) (by obtain ⟨o, ho⟩ := hL8.tbIn.2; exact offm _ ho) (fun q hq => offm _ (hL8.fz q hq))
    refine k8 _ _ _ _ nw32 (by k_asm) (news_sub N30 fun p hp => sub31 p (List.mem_cons_of_mem _ (sub32 p hp))) off32 ⟨⟨some (.int (0 + (i : Int)) ti), fun y => rfl⟩, hs30, mvs30, hL32, hhl30, hI30, hLn30 ?_, ?_⟩
    · rw [List.size_toArray, hkv, ← hkl, List.take_length]; exact hka i hi
    · rw [hml30, List.size_toArray, hkv, hml8]; omega
  intro I2 j v m₂ news₂ oI2 h20 tk20 dr20 Q2 E2 hj hPj hJ2 off2 F20 N20 k20
  obtain ⟨hm20, hs20, mvs20, hL20, hhl20, hI20, hLo20, hLn20, hml20⟩ := hJ2
  replace F20 := fr_congr F20 hm20
  obtain ⟨n, tn, rfl, hn⟩ := IntsAre.at hki j v (by simpa using hPj)
  obtain ⟨k, hkj, rfl⟩ : ∃ k : Nat, kns[j]? = some k ∧ ((k : Nat) : Int) = n := by simpa using hn
  have hk : k < 4 := hk4 k (List.mem_of_getElem? hkj)
  have off2m := off1_mem off2
  have hj4 : j < 4 := by rw [List.size_toArray, hkv] at hj; exact hj
  obtain ⟨nw3, hL3, sub3⟩ := hL20.freeze (o := oI2) off2m
  replace N20 := news_sub N20 sub3
  refine l_store_k F20 N20 hL3 (by rfl) (by rfl) (by rfl) ?_
  intro h21 nw4 ock4 F21 N21 hock4 hL4
  obtain ⟨em4, hem4⟩ := hL4.mvIn
  replace N21 := news_front N21 (q := (mv, W.listOf (mvRefs mvs20).toArray em4)) (List.mem_cons_of_mem _ hem4)
  dsimp only
  repeat' ((fail_if_success (with_reducible show wpAny _ _ (call (Value.ref 178) _) _ _ _)); (fail_if_success (with_reducible show wpAny _ _ (call (Value.ref 95) _) _ _ _)); (fail_if_success (with_reducible show wpAny _ _ (call (Value.ref 159) _) _ _ _)); (fail_if_success (with_reducible show wpAny _ _ (call (Value.ref 236) _) _ _ _)); (fail_if_success (with_reducible show wpAny _ _ (call (Value.ref 60) _) _ _ _)); (fail_if_success (with_reducible show LpSrc _ _ _ _ _ _ _ _ _ _ _)); (fail_if_success (with_reducible show wpAny _ _ (binaryOp Operator.FloorDiv _ _) _ _ _)); (fail_if_success (with_reducible show wpAny _ _ (inplaceOp Operator.FloorDiv _ _) _ _ _)); (fail_if_success (with_reducible show wpAny _ _ (binaryOp Operator.Mod _ _) _ _ _)); (fail_if_success (with_reducible show wpAny _ _ (binaryOp Operator.Mult (Value.ref _) _) _ _ _)); (fail_if_success (with_reducible show wpAny _ _ (compareOp _ (Value.ref _) (Value.ref _)) _ _ _)); (fail_if_success (with_reducible show wpAny _ _ (call (Value.builtin "list.append") _) _ _ _)); (fail_if_success (with_reducible show wpAny _ _ (subscriptTail _ _ (Value.ref _) (Value.int (Int.fmod _ _) _)) _ _ _)); (fail_if_success (with_reducible show CtSrc _ _ _ _ _ _ _ _ _ _ _ _ _ _ _ _ _ _ _ _ _)); (fail_if_success (with_reducible show wpAny _ _ (call (Value.ref 248) _) _ _ _)); (fail_if_success (with_reducible show wpAny _ _ (call (Value.builtin "sum") _) _ _ _)); (fail_if_success (with_reducible show wpAny _ _ (call (Value.builtin "list.count") _) _ _ _)); (fail_if_success (with_reducible show wpAny _ _ (call (Value.type "str") _) _ _ _)); (fail_if_success (with_reducible show CpSrc _ _ _ _ _ _ _ _ _ _ _ _ _ _ _)); first | (k_unfold; (try dsimp only)) | (k_end; wrow_close) | walk1 | (dsimp only; walk1) | (leave1; walk_say "STEP leave1"; try dsimp only) | fail "no step")
  k_dflt (refine' l_carry (eb := eb) (nw := nw4) ?B ?F ?X ?N ?T ?hk hL4 h5 ?hbl hk ?hsz C76 C83 C48 ?hd ?hu ?_; (case B => k_asm); (case F => k_asm); (case X => k_asm); (case T => k_asm); (case hk => exact rfl); (case N => exact news_sub (by k_asm) (by walk_at "sub go")); (case hbl => simp [hbl]); (case hsz => omega); (case hd => ktr_room); (case hu => ktr_units))
  intro tv5 hs5 nw5 h5' tk5 dr5 F5 N5 hL5 hlen5 hcnt5
  dsimp only
  repeat' ((fail_if_success (with_reducible show wpAny _ _ (call (Value.ref 178) _) _ _ _)); (fail_if_success (with_reducible show wpAny _ _ (call (Value.ref 95) _) _ _ _)); (fail_if_success (with_reducible show wpAny _ _ (call (Value.ref 159) _) _ _ _)); (fail_if_success (with_reducible show wpAny _ _ (call (Value.ref 236) _) _ _ _)); (fail_if_success (with_reducible show wpAny _ _ (call (Value.ref 60) _) _ _ _)); (fail_if_success (with_reducible show LpSrc _ _ _ _ _ _ _ _ _ _ _)); (fail_if_success (with_reducible show wpAny _ _ (binaryOp Operator.FloorDiv _ _) _ _ _)); (fail_if_success (with_reducible show wpAny _ _ (inplaceOp Operator.FloorDiv _ _) _ _ _)); (fail_if_success (with_reducible show wpAny _ _ (binaryOp Operator.Mod _ _) _ _ _)); (fail_if_success (with_reducible show wpAny _ _ (binaryOp Operator.Mult (Value.ref _) _) _ _ _)); (fail_if_success (with_reducible show wpAny _ _ (compareOp _ (Value.ref _) (Value.ref _)) _ _ _)); (fail_if_success (with_reducible show wpAny _ _ (call (Value.builtin "list.append") _) _ _ _)); (fail_if_success (with_reducible show wpAny _ _ (subscriptTail _ _ (Value.ref _) (Value.int (Int.fmod _ _) _)) _ _ _)); (fail_if_success (with_reducible show CtSrc _ _ _ _ _ _ _ _ _ _ _ _ _ _ _ _ _ _ _ _ _)); (fail_if_success (with_reducible show wpAny _ _ (call (Value.ref 248) _) _ _ _)); (fail_if_success (with_reducible show wpAny _ _ (call (Value.builtin "sum") _) _ _ _)); (fail_if_success (with_reducible show wpAny _ _ (call (Value.builtin "list.count") _) _ _ _)); (fail_if_success (with_reducible show wpAny _ _ (call (Value.type "str") _) _ _ _)); (fail_if_success (with_reducible show CpSrc _ _ _ _ _ _ _ _ _ _ _ _ _ _ _)); first | (k_unfold; (try dsimp only)) | (k_end; wrow_close) | walk1 | (dsimp only; walk1) | (leave1; walk_say "STEP leave1"; try dsimp only) | fail "no step")
  (rename Fr _ _ _ _ => F5a)
  (rename News _ _ _ _ => N5a)
  k_dflt (refine l_push_mv (x := ⟨_, k, cnt hs20 k / b k, _, tv5⟩) F5a (news_sub N5a (by walk_at "sub go")) (fun p hp => N5a p (by rw [List.mem_singleton.mp hp]; k_mem)) hL5 (by assumption) (by omega) ?_)
  intro h6 nw6 F6 N6 hL6
  dsimp only
  repeat' ((fail_if_success (with_reducible show wpAny _ _ (call (Value.ref 178) _) _ _ _)); (fail_if_success (with_reducible show wpAny _ _ (call (Value.ref 95) _) _ _ _)); (fail_if_success (with_reducible show wpAny _ _ (call (Value.ref 159) _) _ _ _)); (fail_if_success (with_reducible show wpAny _ _ (call (Value.ref 236) _) _ _ _)); (fail_if_success (with_reducible show wpAny _ _ (call (Value.ref 60) _) _ _ _)); (fail_if_success (with_reducible show LpSrc _ _ _ _ _ _ _ _ _ _ _)); (fail_if_success (with_reducible show wpAny _ _ (binaryOp Operator.FloorDiv _ _) _ _ _)); (fail_if_success (with_reducible show wpAny _ _ (inplaceOp Operator.FloorDiv _ _) _ _ _)); (fail_if_success (with_reducible show wpAny _ _ (binaryOp Operator.Mod _ _) _ _ _)); (fail_if_success (with_reducible show wpAny _ _ (binaryOp Operator.Mult (Value.ref _) _) _ _ _)); (fail_if_success (with_reducible show wpAny _ _ (compareOp _ (Value.ref _) (Value.ref _)) _ _ _)); (fail_if_success (with_reducible show wpAny _ _ (call (Value.builtin "list.append") _) _ _ _)); (fail_if_success (with_reducible show wpAny _ _ (subscriptTail _ _ (Value.ref _) (Value.int (Int.fmod _ _) _)) _ _ _)); (fail_if_success (with_reducible show CtSrc _ _ _ _ _ _ _ _ _ _ _ _ _ _ _ _ _ _ _ _ _)); (fail_if_success (with_reducible show wpAny _ _ (call (Value.ref 248) _) _ _ _)); (fail_if_success (with_reducible show wpAny _ _ (call (Value.builtin "sum") _) _ _ _)); (fail_if_success (with_reducible show wpAny _ _ (call (Value.builtin "list.count") _) _ _ _)); (fail_if_success (with_reducible show wpAny _ _ (call (Value.type "str") _) _ _ _)); (fail_if_success (with_reducible show CpSrc _ _ _ _ _ _ _ _ _ _ _ _ _ _ _)); first | (k_unfold; (try dsimp only)) | (k_end; wrow_close) | walk1 | (dsimp only; walk1) | (leave1; walk_say "STEP leave1"; try dsimp only) | fail "no step")
  obtain ⟨nw7, hL7, off7, sub7⟩ := hL6.thaw (off2m _ hL20.tbIn.1) (by obtain ⟨o, ho⟩ := hL20.tbIn.2; exact off2m _ ho) (fun q hq => off2m _ (hL20.fz q hq))
  refine k20 _ _ _ _ nw7 (by k_asm) (news_sub N6 sub7) off7 ⟨fun y => rfl, hs5, _, hL7, by omega, ?_, hLo20.carry hk (h5.hb0 k hk) hcnt5, ?_, ?_⟩
  · rw [mvPairs, List.map_append, List.map_singleton, ← mvPairs]
    exact hI20.carry hk hcnt5
  · intro hin
    rw [List.take_add_one, hkj] at hin
    rcases List.mem_append.mp hin with hin | hin
    · exact (hLn20 hin).carry hk (h5.hb0 k hk) hcnt5
    · have he : i = k := by simpa using hin
      subst he
      exact hLo20.next hk (h5.hb0 i hk) hcnt5
  · rw [List.length_append, List.length_singleton, hml20]; omega
end
end PartC15
section PartC16
section
theorem law_B {w : World} {p : Program} {loose : List Str} {mean : ExcName → Option Value} {mg mb : Str → Option Value}
  {b wt : Nat → Nat} {bits wits : Array Value} {eb ew : Nat} {kt : Tok} {tb td lst bl wl ld mv sc : Addr} {ocw : Obj} {FZ nw : List (Addr × Obj)} {svs : List Value} {sns : List Int}
  {dp un : Nat} {gd : Option (List Code)} {cn : Str} {a : Addr} {ccd : Value} {cf ck cw : Addr} {outer : List Env} {A₀ : Around} {base h₀ : Heap} {L : Addr} {m : Str → Option Value} {s : Shared} {Q : Flow → Shared → Prop} {E : Value → Shared → Prop}
  (B : Below A₀ base outer h₀) (F : Fr h₀ L s.heap (fun y => if y = Str.ofString "moves" then some (.ref mv) else if y = Str.ofString "laid" then some (.ref ld) else if y = Str.ofString "table" then some (.ref tb) else if y = Str.ofString "bases" then some (.ref bl) else if y = Str.ofString "script" then some (.ref sc) else m y)) (X : (hd.heap_39 w.params).In h₀) (N : News h₀ L s.heap nw) (T : Top p loose mean mg mb h₀)
  (hL : LawSt w kt wt tb td lst ck ld mv FZ nw [] [] []) (h5 : Five b wt bits wits) (hbl : (bl, W.listOf bits eb) ∈ FZ) (hwl : (wl, W.listOf wits ew) ∈ FZ) (hcw : (cw, ocw) ∈ FZ) (hocw : ocw.data = .cell (some (.ref wl))) (hsc : h₀.IsList sc svs.toArray) (hsi : IntsAre svs sns) (C76 : CodeHd base 80 76) (C83 : CodeHd base 87 83) (C48 : CodeHd base 52 48) (hd : dp + 60 < recursionLimit) (hu : un + 500 < cLine) (hsl : sns.length ≤ 63)
  (hret : ∀ (m' : Str → Option Value) (o1' o2' o3' : Obj) (tl tl' : List (Addr × Obj)) (h' : Heap) (tk' : Nat) (dr' : Drawn), Fr h₀ L h' m' → News h₀ L h' ((76, o1') :: (83, o2') :: (48, o3') :: tl) → TSt o1' o2' o3' tl' → Q (.ret (.bool true)) { s with heap := h', drawn := dr', toks := tk' }) :
  wpAny (model Challenge.rw_ny0343_01.row.prog w) (ktrTop dp un gd cn lawScope L a ccd [(Str.ofString "worths", cw), (Str.ofString "k", ck), (Str.ofString "first", cf)] outer) (execs (lawPart 7) (envX cn lawScope L a ccd [(Str.ofString "worths", cw), (Str.ofString "k", ck), (Str.ofString "first", cf)])) Q E s := by
  have eS : lawScope = { kind := _, names := _, isGenerator := _, isCoroutine := _, more := _ } := rfl
  rw [eS]
  clear eS
  have eP : lawPart 7 = _ :: _ := rfl
  rw [eP]
  clear eP
  revert X
  w_top off
  k_fill
  intro X
  repeat' ((fail_if_success (with_reducible show wpAny _ _ (call (Value.ref 178) _) _ _ _)); (fail_if_success (with_reducible show wpAny _ _ (call (Value.ref 95) _) _ _ _)); (fail_if_success (with_reducible show wpAny _ _ (call (Value.ref 159) _) _ _ _)); (fail_if_success (with_reducible show wpAny _ _ (call (Value.ref 236) _) _ _ _)); (fail_if_success (with_reducible show wpAny _ _ (call (Value.ref 60) _) _ _ _)); (fail_if_success (with_reducible show LpSrc _ _ _ _ _ _ _ _ _ _ _)); (fail_if_success (with_reducible show wpAny _ _ (binaryOp Operator.FloorDiv _ _) _ _ _)); (fail_if_success (with_reducible show wpAny _ _ (inplaceOp Operator.FloorDiv _ _) _ _ _)); (fail_if_success (with_reducible show wpAny _ _ (binaryOp Operator.Mod _ _) _ _ _)); (fail_if_success (with_reducible show wpAny _ _ (binaryOp Operator.Mult (Value.ref _) _) _ _ _)); (fail_if_success (with_reducible show wpAny _ _ (compareOp _ (Value.ref _) (Value.ref _)) _ _ _)); (fail_if_success (with_reducible show wpAny _ _ (call (Value.builtin "list.append") _) _ _ _)); (fail_if_success (with_reducible show wpAny _ _ (subscriptTail _ _ (Value.ref _) (Value.int (Int.fmod _ _) _)) _ _ _)); (fail_if_success (with_reducible show CtSrc _ _ _ _ _ _ _ _ _ _ _ _ _ _ _ _ _ _ _ _ _)); (fail_if_success (with_reducible show wpAny _ _ (call (Value.ref 248) _) _ _ _)); (fail_if_success (with_reducible show wpAny _ _ (call (Value.builtin "sum") _) _ _ _)); (fail_if_success (with_reducible show wpAny _ _ (call (Value.builtin "list.count") _) _ _ _)); (fail_if_success (with_reducible show wpAny _ _ (call (Value.type "str") _) _ _ _)); (fail_if_success (with_reducible show CpSrc _ _ _ _ _ _ _ _ _ _ _ _ _ _ _)); first | (k_unfold; (try dsimp only)) | (k_end; wrow_close) | walk1 | (dsimp only; walk1) | (leave1; walk_say "STEP leave1"; try dsimp only) | fail "no step")
  rename_i yl yvs hy FY NY hyI hyl
  have hylen : yvs.length ≤ 23 := by
    rw [hyI.length, List.length_append, List.length_take]
    simp only [List.length_cons, List.length_nil]
    omega
  have hyA : ∀ (i : Nat) v, yvs[i]? = some v → ∃ n t, v = .int n t := fun i v h => by
    obtain ⟨n, t, e, _⟩ := IntsAre.at hyI i v h
    exact ⟨n, t, e⟩
  clear hyI
  obtain ⟨nw1, hL1, sub1⟩ := hL.freeze (x := yl) (o := W.listOf yvs.toArray 0) (fun p hp => Nat.ne_of_lt (allLt_lt hyl.2.2 p hp))
  have N1 : News h₀ L hy nw1 := news_sub NY fun p hp => by
    rcases List.mem_cons.mp (sub1 p hp) with rfl | hp
    · simp
    · simp [hp]
  k_dflt (refine LpSrc.listS (its := yvs.toArray) (by rfl) FY N1 (fun i m' nw' => (∃ vy vp, ∀ y, m' y = (fun y => if y = Str.ofString "moves" then some (.ref mv) else if y = Str.ofString "laid" then some (.ref ld) else if y = Str.ofString "table" then some (.ref tb) else if y = Str.ofString "bases" then some (.ref bl) else if y = Str.ofString "script" then some (.ref sc) else if y = Str.ofString "y" then vy else if y = Str.ofString "place" then vp else m y) y) ∧ ∃ lay hs mvs, LawSt w kt wt tb td lst ck ld mv ((yl, W.listOf yvs.toArray 0) :: FZ) nw' lay hs mvs ∧ lay.length = i ∧ mvs.length = i ∧ hs.length ≤ i ∧ (∀ x ∈ lay, x < 5) ∧ Inv b (cnt hs) lay (mvPairs mvs)) ?js ?j0 ?tn ?fn)
  case js =>
    rintro i m' nw' ⟨_, lay, hs, mvs, hL', _⟩
    exact .inr ⟨W.listOf yvs.toArray 0, hL'.fz _ (by first | (walk_at "mem go") | simp), rfl, _, rfl⟩
  case j0 => exact ⟨⟨m (Str.ofString "y"), m (Str.ofString "place"), fun y => (by by_cases hy0 : y = Str.ofString "moves"; (case pos => (subst hy0; rfl)); by_cases hy1 : y = Str.ofString "laid"; (case pos => (subst hy1; rfl)); by_cases hy2 : y = Str.ofString "table"; (case pos => (subst hy2; rfl)); by_cases hy3 : y = Str.ofString "bases"; (case pos => (subst hy3; rfl)); by_cases hy4 : y = Str.ofString "script"; (case pos => (subst hy4; rfl)); by_cases hy5 : y = Str.ofString "y"; (case pos => (subst hy5; rfl)); by_cases hy6 : y = Str.ofString "place"; (case pos => (subst hy6; rfl)); simp only [hy0, hy1, hy2, hy3, hy4, hy5, hy6, if_false])⟩, [], [], [], hL1, rfl, rfl, Nat.le_refl _, (fun x hx => nomatch hx), Inv.start b fun j => rfl⟩
  case fn =>
    intro h30 tk30 dr30 m30 news30 F30 N30 hJ30
    obtain ⟨⟨vy, vp, hm30⟩, lay, hs, mvs, hL30, hlay30, hml30, hhl30, hl530, hI30⟩ := hJ30
    replace F30 := fr_congr F30 hm30
    rw [List.size_toArray] at hlay30 hml30 hhl30
    dsimp only
    k_dflt (refine law_C (eb := eb) (ew := ew) B F30 X N30 T hL30 h5 (by first | (walk_at "mem go") | simp [hbl]) (by first | (walk_at "mem go") | simp [hwl]) (by first | (walk_at "mem go") | simp [hcw]) hocw hsc hsi C76 C83 C48 hd hu hl530 (by omega) hI30 (by omega) (by omega) ?_)
    intro m9 o1' o2' o3' tl tl' h9 tk9 dr9 F9 N9 hS9
    exact hret m9 o1' o2' o3' tl tl' h9 tk9 dr9 F9 N9 hS9
  intro I i v m₁ news₁ oI h tk dr Q' E' hi hP hJ off F8 N8 k8
  obtain ⟨⟨vy, vp, hm⟩, lay, hs8, mvs8, hL8, hlay8, hml8, hhl8, hl58, hI8⟩ := hJ
  obtain ⟨n, tn, rfl⟩ := hyA i v (by simpa using hP)
  replace F8 := fr_congr F8 hm
  clear hm
  rw [List.size_toArray] at hi
  have offm := off1_mem off
  obtain ⟨nw2, hL2, sub2⟩ := hL8.freeze (o := oI) offm
  replace N8 := news_sub N8 sub2
  obtain ⟨lvs, el, hld, _⟩ := hL2.ldIn
  replace N8 := news_front N8 (q := (ld, W.listOf lvs.toArray el)) hld
  dsimp only
  repeat' ((fail_if_success (with_reducible show wpAny _ _ (call (Value.ref 178) _) _ _ _)); (fail_if_success (with_reducible show wpAny _ _ (call (Value.ref 95) _) _ _ _)); (fail_if_success (with_reducible show wpAny _ _ (call (Value.ref 159) _) _ _ _)); (fail_if_success (with_reducible show wpAny _ _ (call (Value.ref 236) _) _ _ _)); (fail_if_success (with_reducible show wpAny _ _ (call (Value.ref 60) _) _ _ _)); (fail_if_success (with_reducible show LpSrc _ _ _ _ _ _ _ _ _ _ _)); (fail_if_success (with_reducible show wpAny _ _ (binaryOp Operator.FloorDiv _ _) _ _ _)); (fail_if_success (with_reducible show wpAny _ _ (inplaceOp Operator.FloorDiv _ _) _ _ _)); (fail_if_success (with_reducible show wpAny _ _ (binaryOp Operator.Mod _ _) _ _ _)); (fail_if_success (with_reducible show wpAny _ _ (binaryOp Operator.Mult (Value.ref _) _) _ _ _)); (fail_if_success (with_reducible show wpAny _ _ (compareOp _ (Value.ref _) (Value.ref _)) _ _ _)); (fail_if_success (with_reducible show wpAny _ _ (call (Value.builtin "list.append") _) _ _ _)); (fail_if_success (with_reducible show wpAny _ _ (subscriptTail _ _ (Value.ref _) (Value.int (Int.fmod _ _) _)) _ _ _)); (fail_if_success (with_reducible show CtSrc _ _ _ _ _ _ _ _ _ _ _ _ _ _ _ _ _ _ _ _ _)); (fail_if_success (with_reducible show wpAny _ _ (call (Value.ref 248) _) _ _ _)); (fail_if_success (with_reducible show wpAny _ _ (call (Value.builtin "sum") _) _ _ _)); (fail_if_success (with_reducible show wpAny _ _ (call (Value.builtin "list.count") _) _ _ _)); (fail_if_success (with_reducible show wpAny _ _ (call (Value.type "str") _) _ _ _)); (fail_if_success (with_reducible show CpSrc _ _ _ _ _ _ _ _ _ _ _ _ _ _ _)); first | (k_unfold; (try dsimp only)) | (k_end; wrow_close) | walk1 | (dsimp only; walk1) | (leave1; walk_say "STEP leave1"; try dsimp only) | fail "no step")
  k_dflt (refine mod_int' (by decide) ?_)
  obtain ⟨p, hp5, hpe⟩ := fmod_small n 5 (by omega)
  have hpe' : n.fmod 5 = (p : Int) := hpe
  rw [hpe']
  clear hpe hpe'
  obtain ⟨uw, huw⟩ := h5.hwit p hp5
  repeat' ((fail_if_success (with_reducible show wpAny _ _ (call (Value.ref 178) _) _ _ _)); (fail_if_success (with_reducible show wpAny _ _ (call (Value.ref 95) _) _ _ _)); (fail_if_success (with_reducible show wpAny _ _ (call (Value.ref 159) _) _ _ _)); (fail_if_success (with_reducible show wpAny _ _ (call (Value.ref 236) _) _ _ _)); (fail_if_success (with_reducible show wpAny _ _ (call (Value.ref 60) _) _ _ _)); (fail_if_success (with_reducible show LpSrc _ _ _ _ _ _ _ _ _ _ _)); (fail_if_success (with_reducible show wpAny _ _ (binaryOp Operator.FloorDiv _ _) _ _ _)); (fail_if_success (with_reducible show wpAny _ _ (inplaceOp Operator.FloorDiv _ _) _ _ _)); (fail_if_success (with_reducible show wpAny _ _ (binaryOp Operator.Mod _ _) _ _ _)); (fail_if_success (with_reducible show wpAny _ _ (binaryOp Operator.Mult (Value.ref _) _) _ _ _)); (fail_if_success (with_reducible show wpAny _ _ (compareOp _ (Value.ref _) (Value.ref _)) _ _ _)); (fail_if_success (with_reducible show wpAny _ _ (call (Value.builtin "list.append") _) _ _ _)); (fail_if_success (with_reducible show wpAny _ _ (subscriptTail _ _ (Value.ref _) (Value.int (Int.fmod _ _) _)) _ _ _)); (fail_if_success (with_reducible show CtSrc _ _ _ _ _ _ _ _ _ _ _ _ _ _ _ _ _ _ _ _ _)); (fail_if_success (with_reducible show wpAny _ _ (call (Value.ref 248) _) _ _ _)); (fail_if_success (with_reducible show wpAny _ _ (call (Value.builtin "sum") _) _ _ _)); (fail_if_success (with_reducible show wpAny _ _ (call (Value.builtin "list.count") _) _ _ _)); (fail_if_success (with_reducible show wpAny _ _ (call (Value.type "str") _) _ _ _)); (fail_if_success (with_reducible show CpSrc _ _ _ _ _ _ _ _ _ _ _ _ _ _ _)); first | (k_unfold; (try dsimp only)) | (k_end; wrow_close) | walk1 | (dsimp only; walk1) | (leave1; walk_say "STEP leave1"; try dsimp only) | fail "no step")
  (rename Fr _ _ _ _ => F3a)
  (rename News _ _ _ _ => N3a)
  k_dflt (refine l_push_ld (nw := nw2) F3a (news_sub N3a (by walk_at "sub go")) hL2 (by omega) ?_)
  intro h3 nw3 F3 N3 hL3
  replace N3 := news_front (news_front (news_front (news_front N3 (q := (cw, ocw)) (hL3.fz _ (by first | (walk_at "mem go") | simp [hcw]))) (q := (wl, W.listOf wits ew)) (List.mem_cons_of_mem _ (hL3.fz _ (by first | (walk_at "mem go") | simp [hwl])))) (q := (td, dictOf [{ hash := PyData.keyHash w.params (Str.ofString "_headers"), key := .str (Str.ofString "_headers") kt, val := .ref lst }] 1)) (List.mem_cons_of_mem _ (List.mem_cons_of_mem _ hL3.tdIn))) (q := (tb, instObj 239 td)) (List.mem_cons_of_mem _ (List.mem_cons_of_mem _ (List.mem_cons_of_mem _ hL3.tbIn.1)))
  dsimp only
  repeat' ((fail_if_success (with_reducible show wpAny _ _ (call (Value.ref 178) _) _ _ _)); (fail_if_success (with_reducible show wpAny _ _ (call (Value.ref 95) _) _ _ _)); (fail_if_success (with_reducible show wpAny _ _ (call (Value.ref 159) _) _ _ _)); (fail_if_success (with_reducible show wpAny _ _ (call (Value.ref 236) _) _ _ _)); (fail_if_success (with_reducible show wpAny _ _ (call (Value.ref 60) _) _ _ _)); (fail_if_success (with_reducible show LpSrc _ _ _ _ _ _ _ _ _ _ _)); (fail_if_success (with_reducible show wpAny _ _ (binaryOp Operator.FloorDiv _ _) _ _ _)); (fail_if_success (with_reducible show wpAny _ _ (inplaceOp Operator.FloorDiv _ _) _ _ _)); (fail_if_success (with_reducible show wpAny _ _ (binaryOp Operator.Mod _ _) _ _ _)); (fail_if_success (with_reducible show wpAny _ _ (binaryOp Operator.Mult (Value.ref _) _) _ _ _)); (fail_if_success (with_reducible show wpAny _ _ (compareOp _ (Value.ref _) (Value.ref _)) _ _ _)); (fail_if_success (with_reducible show wpAny _ _ (call (Value.builtin "list.append") _) _ _ _)); (fail_if_success (with_reducible show wpAny _ _ (subscriptTail _ _ (Value.ref _) (Value.int (Int.fmod _ _) _)) _ _ _)); (fail_if_success (with_reducible show CtSrc _ _ _ _ _ _ _ _ _ _ _ _ _ _ _ _ _ _ _ _ _)); (fail_if_success (with_reducible show wpAny _ _ (call (Value.ref 248) _) _ _ _)); (fail_if_success (with_reducible show wpAny _ _ (call (Value.builtin "sum") _) _ _ _)); (fail_if_success (with_reducible show wpAny _ _ (call (Value.builtin "list.count") _) _ _ _)); (fail_if_success (with_reducible show wpAny _ _ (call (Value.type "str") _) _ _ _)); (fail_if_success (with_reducible show CpSrc _ _ _ _ _ _ _ _ _ _ _ _ _ _ _)); first | (k_unfold; (try dsimp only)) | (k_end; wrow_close) | walk1 | (dsimp only; walk1) | (leave1; walk_say "STEP leave1"; try dsimp only) | fail "no step")
  refine str_num (h5.hwl p hp5) ?_
  repeat' ((fail_if_success (with_reducible show wpAny _ _ (call (Value.ref 178) _) _ _ _)); (fail_if_success (with_reducible show wpAny _ _ (call (Value.ref 95) _) _ _ _)); (fail_if_success (with_reducible show wpAny _ _ (call (Value.ref 159) _) _ _ _)); (fail_if_success (with_reducible show wpAny _ _ (call (Value.ref 236) _) _ _ _)); (fail_if_success (with_reducible show wpAny _ _ (call (Value.ref 60) _) _ _ _)); (fail_if_success (with_reducible show LpSrc _ _ _ _ _ _ _ _ _ _ _)); (fail_if_success (with_reducible show wpAny _ _ (binaryOp Operator.FloorDiv _ _) _ _ _)); (fail_if_success (with_reducible show wpAny _ _ (inplaceOp Operator.FloorDiv _ _) _ _ _)); (fail_if_success (with_reducible show wpAny _ _ (binaryOp Operator.Mod _ _) _ _ _)); (fail_if_success (with_reducible show wpAny _ _ (binaryOp Operator.Mult (Value.ref _) _) _ _ _)); (fail_if_success (with_reducible show wpAny _ _ (compareOp _ (Value.ref _) (Value.ref _)) _ _ _)); (fail_if_success (with_reducible show wpAny _ _ (call (Value.builtin "list.append") _) _ _ _)); (fail_if_success (with_reducible show wpAny _ _ (subscriptTail _ _ (Value.ref _) (Value.int (Int.fmod _ _) _)) _ _ _)); (fail_if_success (with_reducible show CtSrc _ _ _ _ _ _ _ _ _ _ _ _ _ _ _ _ _ _ _ _ _)); (fail_if_success (with_reducible show wpAny _ _ (call (Value.ref 248) _) _ _ _)); (fail_if_success (with_reducible show wpAny _ _ (call (Value.builtin "sum") _) _ _ _)); (fail_if_success (with_reducible show wpAny _ _ (call (Value.builtin "list.count") _) _ _ _)); (fail_if_success (with_reducible show wpAny _ _ (call (Value.type "str") _) _ _ _)); (fail_if_success (with_reducible show CpSrc _ _ _ _ _ _ _ _ _ _ _ _ _ _ _)); first | (k_unfold; (try dsimp only)) | (k_end; wrow_close) | walk1 | (dsimp only; walk1) | (leave1; walk_say "STEP leave1"; try dsimp only) | fail "no step")
  rw [item_mix hp5]
  k_dflt (refine' l_add (k := p) (nw := nw3) ?B ?F ?X ?N ?T ?hk hL3 hp5 rfl h5.hwl ?hsz ?hd ?hu ?_; (case B => k_asm); (case F => k_asm); (case X => k_asm); (case T => k_asm); (case hk => exact rfl); (case N => exact news_sub (by k_asm) (by walk_at "sub go")); (case hsz => omega); (case hd => ktr_room); (case hu => ktr_units))
  intro hh nw4 h4 tk4 hhk F4 N4 hL4
  have hcnt4 := fun j => cnt_snoc (hs := hs8) hhk j
  have hlen4 : (hs8 ++ [hh]).length = hs8.length + 1 := by rw [List.length_append, List.length_singleton]
  generalize hs8 ++ [hh] = hs9 at *
  have hI9 := hI8.lay hp5 hcnt4
  dsimp only
  repeat' ((fail_if_success (with_reducible show wpAny _ _ (call (Value.ref 178) _) _ _ _)); (fail_if_success (with_reducible show wpAny _ _ (call (Value.ref 95) _) _ _ _)); (fail_if_success (with_reducible show wpAny _ _ (call (Value.ref 159) _) _ _ _)); (fail_if_success (with_reducible show wpAny _ _ (call (Value.ref 236) _) _ _ _)); (fail_if_success (with_reducible show wpAny _ _ (call (Value.ref 60) _) _ _ _)); (fail_if_success (with_reducible show LpSrc _ _ _ _ _ _ _ _ _ _ _)); (fail_if_success (with_reducible show wpAny _ _ (binaryOp Operator.FloorDiv _ _) _ _ _)); (fail_if_success (with_reducible show wpAny _ _ (inplaceOp Operator.FloorDiv _ _) _ _ _)); (fail_if_success (with_reducible show wpAny _ _ (binaryOp Operator.Mod _ _) _ _ _)); (fail_if_success (with_reducible show wpAny _ _ (binaryOp Operator.Mult (Value.ref _) _) _ _ _)); (fail_if_success (with_reducible show wpAny _ _ (compareOp _ (Value.ref _) (Value.ref _)) _ _ _)); (fail_if_success (with_reducible show wpAny _ _ (call (Value.builtin "list.append") _) _ _ _)); (fail_if_success (with_reducible show wpAny _ _ (subscriptTail _ _ (Value.ref _) (Value.int (Int.fmod _ _) _)) _ _ _)); (fail_if_success (with_reducible show CtSrc _ _ _ _ _ _ _ _ _ _ _ _ _ _ _ _ _ _ _ _ _)); (fail_if_success (with_reducible show wpAny _ _ (call (Value.ref 248) _) _ _ _)); (fail_if_success (with_reducible show wpAny _ _ (call (Value.builtin "sum") _) _ _ _)); (fail_if_success (with_reducible show wpAny _ _ (call (Value.builtin "list.count") _) _ _ _)); (fail_if_success (with_reducible show wpAny _ _ (call (Value.type "str") _) _ _ _)); (fail_if_success (with_reducible show CpSrc _ _ _ _ _ _ _ _ _ _ _ _ _ _ _)); first | (k_unfold; (try dsimp only)) | (k_end; wrow_close) | walk1 | (dsimp only; walk1) | (leave1; walk_say "STEP leave1"; try dsimp only) | fail "no step")
  k_dflt (refine floordiv_int (by decide) ?_ (Or.inl (PyProof.noPylong_of_log2 (by decide +kernel))))
  repeat' ((fail_if_success (with_reducible show wpAny _ _ (call (Value.ref 178) _) _ _ _)); (fail_if_success (with_reducible show wpAny _ _ (call (Value.ref 95) _) _ _ _)); (fail_if_success (with_reducible show wpAny _ _ (call (Value.ref 159) _) _ _ _)); (fail_if_success (with_reducible show wpAny _ _ (call (Value.ref 236) _) _ _ _)); (fail_if_success (with_reducible show wpAny _ _ (call (Value.ref 60) _) _ _ _)); (fail_if_success (with_reducible show LpSrc _ _ _ _ _ _ _ _ _ _ _)); (fail_if_success (with_reducible show wpAny _ _ (binaryOp Operator.FloorDiv _ _) _ _ _)); (fail_if_success (with_reducible show wpAny _ _ (inplaceOp Operator.FloorDiv _ _) _ _ _)); (fail_if_success (with_reducible show wpAny _ _ (binaryOp Operator.Mod _ _) _ _ _)); (fail_if_success (with_reducible show wpAny _ _ (binaryOp Operator.Mult (Value.ref _) _) _ _ _)); (fail_if_success (with_reducible show wpAny _ _ (compareOp _ (Value.ref _) (Value.ref _)) _ _ _)); (fail_if_success (with_reducible show wpAny _ _ (call (Value.builtin "list.append") _) _ _ _)); (fail_if_success (with_reducible show wpAny _ _ (subscriptTail _ _ (Value.ref _) (Value.int (Int.fmod _ _) _)) _ _ _)); (fail_if_success (with_reducible show CtSrc _ _ _ _ _ _ _ _ _ _ _ _ _ _ _ _ _ _ _ _ _)); (fail_if_success (with_reducible show wpAny _ _ (call (Value.ref 248) _) _ _ _)); (fail_if_success (with_reducible show wpAny _ _ (call (Value.builtin "sum") _) _ _ _)); (fail_if_success (with_reducible show wpAny _ _ (call (Value.builtin "list.count") _) _ _ _)); (fail_if_success (with_reducible show wpAny _ _ (call (Value.type "str") _) _ _ _)); (fail_if_success (with_reducible show CpSrc _ _ _ _ _ _ _ _ _ _ _ _ _ _ _)); first | (k_unfold; (try dsimp only)) | (k_end; wrow_close) | walk1 | (dsimp only; walk1) | (leave1; walk_say "STEP leave1"; try dsimp only) | fail "no step")
  k_dflt (refine mod_int' (by decide) ?_)
  obtain ⟨k, hk, hke⟩ := fmod_small (n.fdiv 5) 4 (by omega)
  have hke' : (n.fdiv 5).fmod 4 = (k : Int) := hke
  rw [hke']
  clear hke hke'
  dsimp only
  k_dflt (refine l_store_k F4 N4 hL4 (by rfl) (by rfl) (by rfl) ?_)
  intro h5a nw5a ock5 F5b N5b hock5 hL5a
  obtain ⟨em5, hem5⟩ := hL5a.mvIn
  replace N5b := news_front N5b (q := (mv, W.listOf (mvRefs mvs8).toArray em5)) (List.mem_cons_of_mem _ hem5)
  dsimp only
  repeat' ((fail_if_success (with_reducible show wpAny _ _ (call (Value.ref 178) _) _ _ _)); (fail_if_success (with_reducible show wpAny _ _ (call (Value.ref 95) _) _ _ _)); (fail_if_success (with_reducible show wpAny _ _ (call (Value.ref 159) _) _ _ _)); (fail_if_success (with_reducible show wpAny _ _ (call (Value.ref 236) _) _ _ _)); (fail_if_success (with_reducible show wpAny _ _ (call (Value.ref 60) _) _ _ _)); (fail_if_success (with_reducible show LpSrc _ _ _ _ _ _ _ _ _ _ _)); (fail_if_success (with_reducible show wpAny _ _ (binaryOp Operator.FloorDiv _ _) _ _ _)); (fail_if_success (with_reducible show wpAny _ _ (inplaceOp Operator.FloorDiv _ _) _ _ _)); (fail_if_success (with_reducible show wpAny _ _ (binaryOp Operator.Mod _ _) _ _ _)); (fail_if_success (with_reducible show wpAny _ _ (binaryOp Operator.Mult (Value.ref _) _) _ _ _)); (fail_if_success (with_reducible show wpAny _ _ (compareOp _ (Value.ref _) (Value.ref _)) _ _ _)); (fail_if_success (with_reducible show wpAny _ _ (call (Value.builtin "list.append") _) _ _ _)); (fail_if_success (with_reducible show wpAny _ _ (subscriptTail _ _ (Value.ref _) (Value.int (Int.fmod _ _) _)) _ _ _)); (fail_if_success (with_reducible show CtSrc _ _ _ _ _ _ _ _ _ _ _ _ _ _ _ _ _ _ _ _ _)); (fail_if_success (with_reducible show wpAny _ _ (call (Value.ref 248) _) _ _ _)); (fail_if_success (with_reducible show wpAny _ _ (call (Value.builtin "sum") _) _ _ _)); (fail_if_success (with_reducible show wpAny _ _ (call (Value.builtin "list.count") _) _ _ _)); (fail_if_success (with_reducible show wpAny _ _ (call (Value.type "str") _) _ _ _)); (fail_if_success (with_reducible show CpSrc _ _ _ _ _ _ _ _ _ _ _ _ _ _ _)); first | (k_unfold; (try dsimp only)) | (k_end; wrow_close) | walk1 | (dsimp only; walk1) | (leave1; walk_say "STEP leave1"; try dsimp only) | fail "no step")
  k_dflt (refine' l_carry (eb := eb) (nw := nw5a) ?B ?F ?X ?N ?T ?hk hL5a h5 ?hbl hk ?hsz C76 C83 C48 ?hd ?hu ?_; (case B => k_asm); (case F => k_asm); (case X => k_asm); (case T => k_asm); (case hk => exact rfl); (case N => exact news_sub (by k_asm) (by walk_at "sub go")); (case hbl => simp [hbl]); (case hsz => omega); (case hd => ktr_room); (case hu => ktr_units))
  intro tv5 hs5 nw5 h5' tk5 dr5 F5 N5 hL5 hlen5 hcnt5
  dsimp only
  repeat' ((fail_if_success (with_reducible show wpAny _ _ (call (Value.ref 178) _) _ _ _)); (fail_if_success (with_reducible show wpAny _ _ (call (Value.ref 95) _) _ _ _)); (fail_if_success (with_reducible show wpAny _ _ (call (Value.ref 159) _) _ _ _)); (fail_if_success (with_reducible show wpAny _ _ (call (Value.ref 236) _) _ _ _)); (fail_if_success (with_reducible show wpAny _ _ (call (Value.ref 60) _) _ _ _)); (fail_if_success (with_reducible show LpSrc _ _ _ _ _ _ _ _ _ _ _)); (fail_if_success (with_reducible show wpAny _ _ (binaryOp Operator.FloorDiv _ _) _ _ _)); (fail_if_success (with_reducible show wpAny _ _ (inplaceOp Operator.FloorDiv _ _) _ _ _)); (fail_if_success (with_reducible show wpAny _ _ (binaryOp Operator.Mod _ _) _ _ _)); (fail_if_success (with_reducible show wpAny _ _ (binaryOp Operator.Mult (Value.ref _) _) _ _ _)); (fail_if_success (with_reducible show wpAny _ _ (compareOp _ (Value.ref _) (Value.ref _)) _ _ _)); (fail_if_success (with_reducible show wpAny _ _ (call (Value.builtin "list.append") _) _ _ _)); (fail_if_success (with_reducible show wpAny _ _ (subscriptTail _ _ (Value.ref _) (Value.int (Int.fmod _ _) _)) _ _ _)); (fail_if_success (with_reducible show CtSrc _ _ _ _ _ _ _ _ _ _ _ _ _ _ _ _ _ _ _ _ _)); (fail_if_success (with_reducible show wpAny _ _ (call (Value.ref 248) _) _ _ _)); (fail_if_success (with_reducible show wpAny _ _ (call (Value.builtin "sum") _) _ _ _)); (fail_if_success (with_reducible show wpAny _ _ (call (Value.builtin "list.count") _) _ _ _)); (fail_if_success (with_reducible show wpAny _ _ (call (Value.type "str") _) _ _ _)); (fail_if_success (with_reducible show CpSrc _ _ _ _ _ _ _ _ _ _ _ _ _ _ _)); first | (k_unfold; (try dsimp only)) | (k_end; wrow_close) | walk1 | (dsimp only; walk1) | (leave1; walk_say "STEP leave1"; try dsimp only) | fail "no step")
  (rename Fr _ _ _ _ => F5a)
  (rename News _ _ _ _ => N5a)
  k_dflt (refine l_push_mv (x := ⟨_, k, cnt hs9 k / b k, _, tv5⟩) F5a (news_sub N5a (by walk_at "sub go")) (fun p hp => N5a p (by rw [List.mem_singleton.mp hp]; k_mem)) hL5 (by assumption) (by omega) ?_)
  intro h6 nw6 F6 N6 hL6
  dsimp only
  repeat' ((fail_if_success (with_reducible show wpAny _ _ (call (Value.ref 178) _) _ _ _)); (fail_if_success (with_reducible show wpAny _ _ (call (Value.ref 95) _) _ _ _)); (fail_if_success (with_reducible show wpAny _ _ (call (Value.ref 159) _) _ _ _)); (fail_if_success (with_reducible show wpAny _ _ (call (Value.ref 236) _) _ _ _)); (fail_if_success (with_reducible show wpAny _ _ (call (Value.ref 60) _) _ _ _)); (fail_if_success (with_reducible show LpSrc _ _ _ _ _ _ _ _ _ _ _)); (fail_if_success (with_reducible show wpAny _ _ (binaryOp Operator.FloorDiv _ _) _ _ _)); (fail_if_success (with_reducible show wpAny _ _ (inplaceOp Operator.FloorDiv _ _) _ _ _)); (fail_if_success (with_reducible show wpAny _ _ (binaryOp Operator.Mod _ _) _ _ _)); (fail_if_success (with_reducible show wpAny _ _ (binaryOp Operator.Mult (Value.ref _) _) _ _ _)); (fail_if_success (with_reducible show wpAny _ _ (compareOp _ (Value.ref _) (Value.ref _)) _ _ _)); (fail_if_success (with_reducible show wpAny _ _ (call (Value.builtin "list.append") _) _ _ _)); (fail_if_success (with_reducible show wpAny _ _ (subscriptTail _ _ (Value.ref _) (Value.int (Int.fmod _ _) _)) _ _ _)); (fail_if_success (with_reducible show CtSrc _ _ _ _ _ _ _ _ _ _ _ _ _ _ _ _ _ _ _ _ _)); (fail_if_success (with_reducible show wpAny _ _ (call (Value.ref 248) _) _ _ _)); (fail_if_success (with_reducible show wpAny _ _ (call (Value.builtin "sum") _) _ _ _)); (fail_if_success (with_reducible show wpAny _ _ (call (Value.builtin "list.count") _) _ _ _)); (fail_if_success (with_reducible show wpAny _ _ (call (Value.type "str") _) _ _ _)); (fail_if_success (with_reducible show CpSrc _ _ _ _ _ _ _ _ _ _ _ _ _ _ _)); first | (k_unfold; (try dsimp only)) | (k_end; wrow_close) | walk1 | (dsimp only; walk1) | (leave1; walk_say "STEP leave1"; try dsimp only) | fail "no step")
  obtain ⟨nw7, hL7, off7, sub7⟩ := hL6.thaw (offm _ hL8.tbIn.1) (by obtain ⟨o, ho⟩ := hL8.tbIn.2; exact offm _ ho) (fun q hq => offm _ (hL8.fz q hq))
  refine k8 _ _ _ _ nw7 (by k_asm) (news_sub N6 sub7) off7 ⟨⟨some (.int n tn), _, fun y => (by by_cases hy0 : y = Str.ofString "moves"; (case pos => (subst hy0; rfl)); by_cases hy1 : y = Str.ofString "laid"; (case pos => (subst hy1; rfl)); by_cases hy2 : y = Str.ofString "table"; (case pos => (subst hy2; rfl)); by_cases hy3 : y = Str.ofString "bases"; (case pos => (subst hy3; rfl)); by_cases hy4 : y = Str.ofString "script"; (case pos => (subst hy4; rfl)); by_cases hy5 : y = Str.ofString "y"; (case pos => (subst hy5; rfl)); by_cases hy6 : y = Str.ofString "place"; (case pos => (subst hy6; rfl)); simp only [hy0, hy1, hy2, hy3, hy4, hy5, hy6, if_false])⟩, lay ++ [p], hs5, _, hL7, ?_, ?_, ?_, ?_, ?_⟩
  · rw [List.length_append, List.length_singleton, hlay8]
  · rw [List.length_append, List.length_singleton, hml8]
  · omega
  · intro x hx
    rcases List.mem_append.mp hx with hx | hx
    · exact hl58 x hx
    · rw [List.mem_singleton.mp hx]; exact hp5
  · rw [mvPairs, List.map_append, List.map_singleton, ← mvPairs]
    exact hI9.carry hk hcnt5
end
end PartC16
section PartLq
open PyProof.Rows.LCg
/-- the bases by the script's first number -/
def bOf (f : Int) (j : Nat) : Nat := (2 + (f.fdiv (4 ^ j)).fmod 4).toNat
def wOf (b : Nat → Nat) : Nat → Nat
  | 0 => 1
  | n + 1 => wOf b n * b n
theorem bOf_bounds (f : Int) (j : Nat) : 2 ≤ bOf f j ∧ bOf f j ≤ 5 := by
  unfold bOf
  generalize f.fdiv (4 ^ j) = x
  rw [Int.fmod_eq_emod_of_nonneg _ (by omega)]
  omega
theorem bOf_int (f : Int) (j : Nat) : (2 : Int) + (f.fdiv (4 ^ j)).fmod 4 = ((bOf f j : Nat) : Int) := by
  unfold bOf
  generalize f.fdiv (4 ^ j) = x
  rw [Int.fmod_eq_emod_of_nonneg _ (by omega)]
  omega
theorem worth_all : ((List.range 4).all fun a => (List.range 4).all fun b => (List.range 4).all fun c => (List.range 4).all fun d => worthList.contains 1 && worthList.contains (a + 2) && worthList.contains ((a + 2) * (b + 2)) && worthList.contains ((a + 2) * (b + 2) * (c + 2)) && worthList.contains ((a + 2) * (b + 2) * (c + 2) * (d + 2))) = true := by decide +kernel
theorem worth_in (a : Nat) (ha : a < 4) (b : Nat) (hb : b < 4) (c : Nat) (hc : c < 4) (d : Nat) (hd : d < 4) : 1 ∈ worthList ∧ (a + 2) ∈ worthList ∧ (a + 2) * (b + 2) ∈ worthList ∧ (a + 2) * (b + 2) * (c + 2) ∈ worthList ∧ (a + 2) * (b + 2) * (c + 2) * (d + 2) ∈ worthList := by
  have h := List.all_eq_true.mp (List.all_eq_true.mp (List.all_eq_true.mp (List.all_eq_true.mp worth_all a (List.mem_range.mpr ha)) b (List.mem_range.mpr hb)) c (List.mem_range.mpr hc)) d (List.mem_range.mpr hd)
  simp only [Bool.and_eq_true, List.contains_iff_mem] at h
  exact ⟨h.1.1.1.1, h.1.1.1.2, h.1.1.2, h.1.2, h.2⟩
theorem wOf_in {b : Nat → Nat} (h0 : ∀ k < 4, 2 ≤ b k) (h1 : ∀ k < 4, b k ≤ 5) : ∀ k < 5, wOf b k ∈ worthList := by
  have s : ∀ k, k < 4 → ∃ x, x < 4 ∧ b k = x + 2 := fun k hk => ⟨b k - 2, by have := h0 k hk; have := h1 k hk; omega, by have := h0 k hk; omega⟩
  obtain ⟨x0, l0, e0⟩ := s 0 (by omega)
  obtain ⟨x1, l1, e1⟩ := s 1 (by omega)
  obtain ⟨x2, l2, e2⟩ := s 2 (by omega)
  obtain ⟨x3, l3, e3⟩ := s 3 (by omega)
  have w := worth_in x0 l0 x1 l1 x2 l2 x3 l3
  intro k hk
  have : k = 0 ∨ k = 1 ∨ k = 2 ∨ k = 3 ∨ k = 4 := by omega
  rcases this with rfl | rfl | rfl | rfl | rfl
  · exact w.1
  · show 1 * b 0 ∈ _; rw [Nat.one_mul, e0]; exact w.2.1
  · show 1 * b 0 * b 1 ∈ _; rw [Nat.one_mul, e0, e1]; exact w.2.2.1
  · show 1 * b 0 * b 1 * b 2 ∈ _; rw [Nat.one_mul, e0, e1, e2]; exact w.2.2.2.1
  · show 1 * b 0 * b 1 * b 2 * b 3 ∈ _; rw [Nat.one_mul, e0, e1, e2, e3]; exact w.2.2.2.2
theorem five_of {f : Int} {bits wits : Array Value} (hb : ∀ k < 4, ∃ u, bits[k]? = some (.int (bOf f k : Nat) u)) (hw : ∀ k < 5, ∃ u, wits[k]? = some (.int (wOf (bOf f) k : Nat) u)) : Five (bOf f) (wOf (bOf f)) bits wits :=
  ⟨fun k _ => (bOf_bounds f k).1, fun k _ => (bOf_bounds f k).2, hb, rfl, fun _ _ => rfl, hw, wOf_in (fun k _ => (bOf_bounds f k).1) fun k _ => (bOf_bounds f k).2⟩
theorem pow_ne (i : Nat) (hi : i < 4) : ((4 : Int) ^ ((i : Nat) : Int).toNat ≠ 0) ∧ ((4 : Int) ^ ((i : Nat) : Int).toNat).natAbs.log2 < 9000 := by
  have : ∀ i < 4, ((4 : Int) ^ ((i : Nat) : Int).toNat ≠ 0) ∧ ((4 : Int) ^ ((i : Nat) : Int).toNat).natAbs.log2 < 9000 := by decide +kernel
  exact this i hi
section
variable {prog : Program} {w : World} {A : Around} {h₀ : Heap} {L : Addr} {m : Str → Option Value} {env : Env} {elt : PySem.Expr} {x : Str} {scope : Scope} {cl : List (Str × Addr)} {s : Shared} {Fin : List Value → List (Addr × Obj) → Prop} {news : List (Addr × Obj)}
theorem comp_four (g : Nat → Int)
    (turn : ∀ (i : Nat) t I oI C oC D ys m₂ h tk (R E' : Value → Shared → Prop), i < 4 → NsObj oC m₂ → m₂ x = some (.int (i : Nat) t) → Fr h₀ L h m → News h₀ L h ((I, oI) :: (C, oC) :: (D, lst ys) :: news) → Off3 I C D news → ((@Ne Nat I C) ∧ (@Ne Nat I D) ∧ (@Ne Nat C D)) →
      (∀ u tk', R (.int (g i) u) { s with heap := h, toks := tk' }) → wpAny (model prog w) A (eval elt (compEnvC scope cl C env)) R E' { s with heap := h, toks := tk })
    (fin : ∀ ys : List Value, ys.length = 4 → (∀ j < 4, ∃ u, ys[j]? = some (.int (g j) u)) → Fin ys news) :
    CompRest prog w A h₀ L m env elt x scope cl s (fun _ => True) (fun i v => ∃ t, v = .int (0 + (i : Int)) t) Fin 4 0 [] news := by
  have key : ∀ k i (ys : List Value), i + k = 4 → ys.length = i → (∀ j < i, ∃ u, ys[j]? = some (.int (g j) u)) → CompRest prog w A h₀ L m env elt x scope cl s (fun _ => True) (fun i v => ∃ t, v = .int (0 + (i : Int)) t) Fin k i ys news := by
    intro k
    induction k with
    | zero =>
      intro i ys hi hl hy
      have : i = 4 := by omega
      subst this
      exact CompRest.zero (fin ys hl hy)
    | succ k ih =>
      intro i ys hi hl hy
      refine CompRest.succ ?_
      intro v I oI C oC D m₂ h tk E' hv hC hx F N off ne
      obtain ⟨t, rfl⟩ := hv
      rw [Int.zero_add] at hx
      refine turn i t I oI C oC D ys m₂ h tk _ E' (by omega) hC hx F N off ne fun u tk' => ?_
      refine CompEnd.intro F N news (fun p hp => hp) off trivial (ih (i + 1) _ (by omega) (by rw [List.length_append, List.length_singleton, hl]) fun j hj => ?_)
      by_cases hji : j = i
      · subst hji
        exact ⟨u, by rw [← hl]; simp⟩
      · obtain ⟨u', hu'⟩ := hy j (by omega)
        exact ⟨u', by rw [List.getElem?_append_left (by omega)]; exact hu'⟩
  exact key 4 0 [] rfl rfl fun j hj => absurd hj (Nat.not_lt_zero j)
end
theorem mul_nat {prog : Program} {w : World} {A : Around} {E : Value → Shared → Prop} {s : Shared} {x b c : Nat} {t u : Tok} {Q : Value → Shared → Prop} (hb : b ≤ 5) (hc : c = x * b) (h : Q (.int (c : Nat) s.toks) { s with toks := s.toks + 1 }) : wpAny (model prog w) A (binaryOp .Mult (.int (x : Nat) t) (.int (b : Nat) u)) Q E s := by
  have hs : ∀ b ≤ 5, Builtin.Int.intBits ((b : Nat) : Int) ≤ 64 := by decide +kernel
  refine mul_int ?_ (IntMulOk.of_right (hs b hb))
  rw [← Int.natCast_mul, ← hc]
  exact h
theorem lawSt_start {w : World} {kt : Tok} {wt : Nat → Nat} {tb td lst ck ld mv bl wl cw : Addr} {ob ow ocw ock : Obj} {h₀ h : Heap} {L : Addr}
    (N : News h₀ L h [(mv, W.listOf #[] 0), (ld, W.listOf #[] 0), (lst, W.listOf #[] 0), (tb, instObj 239 td), (td, dictOf [{ hash := PyData.keyHash w.params (Str.ofString "_headers"), key := .str (Str.ofString "_headers") kt, val := .ref lst }] 1), (wl, ow), (bl, ob), (cw, ocw), (ck, ock), (83, tabObj #[]), (76, tabObj #[]), (48, tabObj #[])])
    (hck : ∃ v, ock.data = .cell v)
    (h1 : (@LT.lt Nat _ 95 tb) ∧ (@LT.lt Nat _ 95 td) ∧ (@LT.lt Nat _ 95 lst) ∧ (@Ne Nat tb lst) ∧ (@Ne Nat td lst))
    (gck : (@Ne Nat ck 76) ∧ (@Ne Nat ck 83) ∧ (@Ne Nat ck 48))
    (gld : (@Ne Nat ld 76) ∧ (@Ne Nat ld 83) ∧ (@Ne Nat ld 48))
    (gmv : (@Ne Nat mv 76) ∧ (@Ne Nat mv 83) ∧ (@Ne Nat mv 48))
    (gbl : (@Ne Nat bl 76) ∧ (@Ne Nat bl 83) ∧ (@Ne Nat bl 48))
    (gwl : (@Ne Nat wl 76) ∧ (@Ne Nat wl 83) ∧ (@Ne Nat wl 48))
    (gcw : (@Ne Nat cw 76) ∧ (@Ne Nat cw 83) ∧ (@Ne Nat cw 48))
    (h3 : (@Ne Nat ck lst) ∧ (@Ne Nat ld lst) ∧ (@Ne Nat mv lst) ∧ (@Ne Nat bl lst) ∧ (@Ne Nat wl lst) ∧ (@Ne Nat cw lst))
    (h4 : (@Ne Nat ck ld) ∧ (@Ne Nat ck mv) ∧ (@Ne Nat ld mv) ∧ (@Ne Nat tb ck) ∧ (@Ne Nat tb ld) ∧ (@Ne Nat tb mv) ∧ (@Ne Nat td ck) ∧ (@Ne Nat td ld) ∧ (@Ne Nat td mv))
    (h5 : (@Ne Nat bl ck) ∧ (@Ne Nat bl ld) ∧ (@Ne Nat bl mv) ∧ (@Ne Nat wl ck) ∧ (@Ne Nat wl ld) ∧ (@Ne Nat wl mv) ∧ (@Ne Nat cw ck) ∧ (@Ne Nat cw ld) ∧ (@Ne Nat cw mv)) :
    ∃ nw, LawSt w kt wt tb td lst ck ld mv [(bl, ob), (wl, ow), (cw, ocw)] nw [] [] [] ∧ News h₀ L h nw := by
  refine ⟨_, ⟨0, tabObj #[], tabObj #[], tabObj #[], [], ock, [], 0, 0, rfl, ⟨h1, (fun p hp => nomatch hp), fun p hp => ?_, (fun p hp => nomatch hp)⟩, ⟨h4, fun p hp => ?_⟩, ⟨.inl rfl, .inl rfl, .inl rfl⟩, hck, (fun x hx => nomatch hx), (fun q hq => nomatch hq), .nil, (fun p hp => nomatch hp)⟩, news_sub N ?_⟩
  · simp only [mvNews, List.map_nil, List.nil_append, List.mem_cons, List.not_mem_nil, or_false] at hp
    rcases hp with rfl | rfl | rfl | rfl | rfl | rfl
    · exact ⟨gck.1, gck.2.1, gck.2.2, h3.1⟩
    · exact ⟨gld.1, gld.2.1, gld.2.2, h3.2.1⟩
    · exact ⟨gmv.1, gmv.2.1, gmv.2.2, h3.2.2.1⟩
    · exact ⟨gbl.1, gbl.2.1, gbl.2.2, h3.2.2.2.1⟩
    · exact ⟨gwl.1, gwl.2.1, gwl.2.2, h3.2.2.2.2.1⟩
    · exact ⟨gcw.1, gcw.2.1, gcw.2.2, h3.2.2.2.2.2⟩
  · simp only [mvNews, List.map_nil, List.nil_append, List.mem_cons, List.not_mem_nil, or_false] at hp
    rcases hp with rfl | rfl | rfl
    · exact ⟨h5.1, h5.2.1, h5.2.2.1⟩
    · exact ⟨h5.2.2.2.1, h5.2.2.2.2.1, h5.2.2.2.2.2.1⟩
    · exact ⟨h5.2.2.2.2.2.2.1, h5.2.2.2.2.2.2.2.1, h5.2.2.2.2.2.2.2.2⟩
  · intro p hp
    simp only [mvNews, mvRefs, hdRefs, List.map_nil, List.nil_append, List.mem_cons, List.not_mem_nil, or_false] at hp ⊢
    rcases hp with hp | hp | hp | hp | hp | hp | hp | hp | hp | hp | hp | hp <;> simp [hp]
end PartLq
section PartC17
section
local macro_rules | `(tactic| walk_at "exec Assign cons ListComp") => `(tactic| (k_here; k_dflt (refine LCg.Assign_ListComp_U (F₀ := by k_asm) (by rfl) (by with_unfolding_all rfl) (by with_unfolding_all rfl) (by decide) (by rfl) (by decide) (by rfl) (by rfl) (by rfl) ?_)))
theorem law_A {w : World} {p : Program} {loose : List Str} {mean : ExcName → Option Value} {mg mb : Str → Option Value}
  {o_f o_k o_w : Obj} {sc : Addr} {svs : List Value} {sns : List Int}
  {dp un : Nat} {gd : Option (List Code)} {cn : Str} {a : Addr} {ccd : Value} {cf ck cw : Addr} {outer : List Env} {A₀ : Around} {base h₀ : Heap} {L : Addr} {m : Str → Option Value} {s : Shared} {Q : Flow → Shared → Prop} {E : Value → Shared → Prop}
  (B : Below A₀ base outer h₀) (F : Fr h₀ L s.heap (fun y => if y = Str.ofString "script" then some (.ref sc) else m y)) (X : (hd.heap_39 w.params).In h₀) (N : News h₀ L s.heap [(cw, o_w), (ck, o_k), (cf, o_f), (83, tabObj #[]), (76, tabObj #[]), (48, tabObj #[])]) (T : Top p loose mean mg mb h₀)
  (hof : o_f.data = .cell none) (hok : o_k.data = .cell none) (how : o_w.data = .cell none) (hc1 : @LT.lt Nat _ 95 cf) (hc2 : @LT.lt Nat _ cf ck) (hc3 : @LT.lt Nat _ ck cw) (hsc : h₀.IsList sc svs.toArray) (hsi : IntsAre svs sns) (hsl : sns.length ≤ 63) (C76 : CodeHd base 80 76) (C83 : CodeHd base 87 83) (C48 : CodeHd base 52 48) (hd : dp + 80 < recursionLimit) (hu : un + 700 < cLine)
  (hret : ∀ (m' : Str → Option Value) (o1' o2' o3' : Obj) (tl tl' : List (Addr × Obj)) (h' : Heap) (tk' : Nat) (dr' : Drawn), Fr h₀ L h' m' → News h₀ L h' ((76, o1') :: (83, o2') :: (48, o3') :: tl) → TSt o1' o2' o3' tl' → Q (.ret (.bool true)) { s with heap := h', drawn := dr', toks := tk' }) :
  wpAny (model Challenge.rw_ny0343_01.row.prog w) (ktrTop dp un gd cn lawScope L a ccd [(Str.ofString "worths", cw), (Str.ofString "k", ck), (Str.ofString "first", cf)] outer) (execs (lawPart 0) (envX cn lawScope L a ccd [(Str.ofString "worths", cw), (Str.ofString "k", ck), (Str.ofString "first", cf)])) Q E s := by
  have eS : lawScope = { kind := _, names := _, isGenerator := _, isCoroutine := _, more := _ } := rfl
  rw [eS]
  clear eS
  have eP : lawPart 0 = _ :: _ := rfl
  rw [eP]
  clear eP
  revert X
  w_top off
  k_fill
  intro X
  repeat' ((fail_if_success (with_reducible show wpAny _ _ (call (Value.ref 178) _) _ _ _)); (fail_if_success (with_reducible show wpAny _ _ (call (Value.ref 95) _) _ _ _)); (fail_if_success (with_reducible show wpAny _ _ (call (Value.ref 159) _) _ _ _)); (fail_if_success (with_reducible show wpAny _ _ (call (Value.ref 236) _) _ _ _)); (fail_if_success (with_reducible show wpAny _ _ (call (Value.ref 60) _) _ _ _)); (fail_if_success (with_reducible show LpSrc _ _ _ _ _ _ _ _ _ _ _)); (fail_if_success (with_reducible show wpAny _ _ (binaryOp Operator.FloorDiv _ _) _ _ _)); (fail_if_success (with_reducible show wpAny _ _ (inplaceOp Operator.FloorDiv _ _) _ _ _)); (fail_if_success (with_reducible show wpAny _ _ (binaryOp Operator.Mod _ _) _ _ _)); (fail_if_success (with_reducible show wpAny _ _ (binaryOp Operator.Mult (Value.ref _) _) _ _ _)); (fail_if_success (with_reducible show wpAny _ _ (binaryOp Operator.Mult (Value.int _ _) _) _ _ _)); (fail_if_success (with_reducible show wpAny _ _ (compareOp _ (Value.ref _) (Value.ref _)) _ _ _)); (fail_if_success (with_reducible show wpAny _ _ (call (Value.builtin "list.append") _) _ _ _)); (fail_if_success (with_reducible show wpAny _ _ (subscriptTail _ _ (Value.ref _) (Value.int (Int.fmod _ _) _)) _ _ _)); (fail_if_success (with_reducible show LCg.CompSrc _ _ _ _ _ _ _ _ _ _ _ _ _ _)); (fail_if_success (with_reducible show CtSrc _ _ _ _ _ _ _ _ _ _ _ _ _ _ _ _ _ _ _ _ _)); (fail_if_success (with_reducible show wpAny _ _ (call (Value.ref 248) _) _ _ _)); (fail_if_success (with_reducible show wpAny _ _ (call (Value.builtin "sum") _) _ _ _)); (fail_if_success (with_reducible show wpAny _ _ (call (Value.builtin "list.count") _) _ _ _)); (fail_if_success (with_reducible show wpAny _ _ (call (Value.type "str") _) _ _ _)); (fail_if_success (with_reducible show CpSrc _ _ _ _ _ _ _ _ _ _ _ _ _ _ _)); first | (k_unfold; (try dsimp only)) | (k_end; wrow_close) | walk1 | (dsimp only; walk1) | (leave1; walk_say "STEP leave1"; try dsimp only) | fail "no step")
  generalize (sns ++ [36]).getD (Int.toNat 0) 0 = f at *
  (rename Fr _ _ _ _ => F1)
  (rename News _ _ _ _ => N1)
  k_dflt (refine LCg.CompSrc.range (n := 4) (by rfl) F1 N1 (by assumption) (by decide) (by decide) (by rw [sizeLine_eq]; decide) ?_)
  intro g1
  k_dflt (refine comp_four (fun j => ((bOf f j : Nat) : Int)) ?turn ?fin)
  case turn =>
    intro i t I oI C oC D ys m₂ h tk R E' hi hC hx F2 N2 off2 ne2 r
    repeat' ((fail_if_success (with_reducible show wpAny _ _ (call (Value.ref 178) _) _ _ _)); (fail_if_success (with_reducible show wpAny _ _ (call (Value.ref 95) _) _ _ _)); (fail_if_success (with_reducible show wpAny _ _ (call (Value.ref 159) _) _ _ _)); (fail_if_success (with_reducible show wpAny _ _ (call (Value.ref 236) _) _ _ _)); (fail_if_success (with_reducible show wpAny _ _ (call (Value.ref 60) _) _ _ _)); (fail_if_success (with_reducible show LpSrc _ _ _ _ _ _ _ _ _ _ _)); (fail_if_success (with_reducible show wpAny _ _ (binaryOp Operator.FloorDiv _ _) _ _ _)); (fail_if_success (with_reducible show wpAny _ _ (inplaceOp Operator.FloorDiv _ _) _ _ _)); (fail_if_success (with_reducible show wpAny _ _ (binaryOp Operator.Mod _ _) _ _ _)); (fail_if_success (with_reducible show wpAny _ _ (binaryOp Operator.Mult (Value.ref _) _) _ _ _)); (fail_if_success (with_reducible show wpAny _ _ (binaryOp Operator.Mult (Value.int _ _) _) _ _ _)); (fail_if_success (with_reducible show wpAny _ _ (compareOp _ (Value.ref _) (Value.ref _)) _ _ _)); (fail_if_success (with_reducible show wpAny _ _ (call (Value.builtin "list.append") _) _ _ _)); (fail_if_success (with_reducible show wpAny _ _ (subscriptTail _ _ (Value.ref _) (Value.int (Int.fmod _ _) _)) _ _ _)); (fail_if_success (with_reducible show LCg.CompSrc _ _ _ _ _ _ _ _ _ _ _ _ _ _)); (fail_if_success (with_reducible show CtSrc _ _ _ _ _ _ _ _ _ _ _ _ _ _ _ _ _ _ _ _ _)); (fail_if_success (with_reducible show wpAny _ _ (call (Value.ref 248) _) _ _ _)); (fail_if_success (with_reducible show wpAny _ _ (call (Value.builtin "sum") _) _ _ _)); (fail_if_success (with_reducible show wpAny _ _ (call (Value.builtin "list.count") _) _ _ _)); (fail_if_success (with_reducible show wpAny _ _ (call (Value.type "str") _) _ _ _)); (fail_if_success (with_reducible show CpSrc _ _ _ _ _ _ _ _ _ _ _ _ _ _ _)); first | (k_unfold; (try dsimp only)) | (k_end; wrow_close) | walk1 | (dsimp only; walk1) | (leave1; walk_say "STEP leave1"; try dsimp only) | fail "no step")
    k_dflt (refine floordiv_int (pow_ne i hi).1 ?_ (Or.inl (PyProof.noPylong_of_log2 (pow_ne i hi).2)))
    repeat' ((fail_if_success (with_reducible show wpAny _ _ (call (Value.ref 178) _) _ _ _)); (fail_if_success (with_reducible show wpAny _ _ (call (Value.ref 95) _) _ _ _)); (fail_if_success (with_reducible show wpAny _ _ (call (Value.ref 159) _) _ _ _)); (fail_if_success (with_reducible show wpAny _ _ (call (Value.ref 236) _) _ _ _)); (fail_if_success (with_reducible show wpAny _ _ (call (Value.ref 60) _) _ _ _)); (fail_if_success (with_reducible show LpSrc _ _ _ _ _ _ _ _ _ _ _)); (fail_if_success (with_reducible show wpAny _ _ (binaryOp Operator.FloorDiv _ _) _ _ _)); (fail_if_success (with_reducible show wpAny _ _ (inplaceOp Operator.FloorDiv _ _) _ _ _)); (fail_if_success (with_reducible show wpAny _ _ (binaryOp Operator.Mod _ _) _ _ _)); (fail_if_success (with_reducible show wpAny _ _ (binaryOp Operator.Mult (Value.ref _) _) _ _ _)); (fail_if_success (with_reducible show wpAny _ _ (binaryOp Operator.Mult (Value.int _ _) _) _ _ _)); (fail_if_success (with_reducible show wpAny _ _ (compareOp _ (Value.ref _) (Value.ref _)) _ _ _)); (fail_if_success (with_reducible show wpAny _ _ (call (Value.builtin "list.append") _) _ _ _)); (fail_if_success (with_reducible show wpAny _ _ (subscriptTail _ _ (Value.ref _) (Value.int (Int.fmod _ _) _)) _ _ _)); (fail_if_success (with_reducible show LCg.CompSrc _ _ _ _ _ _ _ _ _ _ _ _ _ _)); (fail_if_success (with_reducible show CtSrc _ _ _ _ _ _ _ _ _ _ _ _ _ _ _ _ _ _ _ _ _)); (fail_if_success (with_reducible show wpAny _ _ (call (Value.ref 248) _) _ _ _)); (fail_if_success (with_reducible show wpAny _ _ (call (Value.builtin "sum") _) _ _ _)); (fail_if_success (with_reducible show wpAny _ _ (call (Value.builtin "list.count") _) _ _ _)); (fail_if_success (with_reducible show wpAny _ _ (call (Value.type "str") _) _ _ _)); (fail_if_success (with_reducible show CpSrc _ _ _ _ _ _ _ _ _ _ _ _ _ _ _)); first | (k_unfold; (try dsimp only)) | (k_end; wrow_close) | walk1 | (dsimp only; walk1) | (leave1; walk_say "STEP leave1"; try dsimp only) | fail "no step")
    k_dflt (refine mod_int' (by decide) ?_)
    repeat' ((fail_if_success (with_reducible show wpAny _ _ (call (Value.ref 178) _) _ _ _)); (fail_if_success (with_reducible show wpAny _ _ (call (Value.ref 95) _) _ _ _)); (fail_if_success (with_reducible show wpAny _ _ (call (Value.ref 159) _) _ _ _)); (fail_if_success (with_reducible show wpAny _ _ (call (Value.ref 236) _) _ _ _)); (fail_if_success (with_reducible show wpAny _ _ (call (Value.ref 60) _) _ _ _)); (fail_if_success (with_reducible show LpSrc _ _ _ _ _ _ _ _ _ _ _)); (fail_if_success (with_reducible show wpAny _ _ (binaryOp Operator.FloorDiv _ _) _ _ _)); (fail_if_success (with_reducible show wpAny _ _ (inplaceOp Operator.FloorDiv _ _) _ _ _)); (fail_if_success (with_reducible show wpAny _ _ (binaryOp Operator.Mod _ _) _ _ _)); (fail_if_success (with_reducible show wpAny _ _ (binaryOp Operator.Mult (Value.ref _) _) _ _ _)); (fail_if_success (with_reducible show wpAny _ _ (binaryOp Operator.Mult (Value.int _ _) _) _ _ _)); (fail_if_success (with_reducible show wpAny _ _ (compareOp _ (Value.ref _) (Value.ref _)) _ _ _)); (fail_if_success (with_reducible show wpAny _ _ (call (Value.builtin "list.append") _) _ _ _)); (fail_if_success (with_reducible show wpAny _ _ (subscriptTail _ _ (Value.ref _) (Value.int (Int.fmod _ _) _)) _ _ _)); (fail_if_success (with_reducible show LCg.CompSrc _ _ _ _ _ _ _ _ _ _ _ _ _ _)); (fail_if_success (with_reducible show CtSrc _ _ _ _ _ _ _ _ _ _ _ _ _ _ _ _ _ _ _ _ _)); (fail_if_success (with_reducible show wpAny _ _ (call (Value.ref 248) _) _ _ _)); (fail_if_success (with_reducible show wpAny _ _ (call (Value.builtin "sum") _) _ _ _)); (fail_if_success (with_reducible show wpAny _ _ (call (Value.builtin "list.count") _) _ _ _)); (fail_if_success (with_reducible show wpAny _ _ (call (Value.type "str") _) _ _ _)); (fail_if_success (with_reducible show CpSrc _ _ _ _ _ _ _ _ _ _ _ _ _ _ _)); first | (k_unfold; (try dsimp only)) | (k_end; wrow_close) | walk1 | (dsimp only; walk1) | (leave1; walk_say "STEP leave1"; try dsimp only) | fail "no step")
    have e9 : (2 : Int) + (f.fdiv (4 ^ ((i : Nat) : Int).toNat)).fmod 4 = ((bOf f i : Nat) : Int) := bOf_int f i
    have r9 : ∀ u tk', R (Value.int (2 + (f.fdiv (4 ^ ((i : Nat) : Int).toNat)).fmod 4) u) _ := fun u tk' => by rw [e9]; exact r u tk'
    exact r9 _ _
  case fin =>
    intro ys hyl hyv bl h2 tk2 F2 N2 off2
    simp only [LCg.Off1, and_true] at off2
    dsimp only
    repeat' ((fail_if_success (with_reducible show wpAny _ _ (call (Value.ref 178) _) _ _ _)); (fail_if_success (with_reducible show wpAny _ _ (call (Value.ref 95) _) _ _ _)); (fail_if_success (with_reducible show wpAny _ _ (call (Value.ref 159) _) _ _ _)); (fail_if_success (with_reducible show wpAny _ _ (call (Value.ref 236) _) _ _ _)); (fail_if_success (with_reducible show wpAny _ _ (call (Value.ref 60) _) _ _ _)); (fail_if_success (with_reducible show LpSrc _ _ _ _ _ _ _ _ _ _ _)); (fail_if_success (with_reducible show wpAny _ _ (binaryOp Operator.FloorDiv _ _) _ _ _)); (fail_if_success (with_reducible show wpAny _ _ (inplaceOp Operator.FloorDiv _ _) _ _ _)); (fail_if_success (with_reducible show wpAny _ _ (binaryOp Operator.Mod _ _) _ _ _)); (fail_if_success (with_reducible show wpAny _ _ (binaryOp Operator.Mult (Value.ref _) _) _ _ _)); (fail_if_success (with_reducible show wpAny _ _ (binaryOp Operator.Mult (Value.int _ _) _) _ _ _)); (fail_if_success (with_reducible show wpAny _ _ (compareOp _ (Value.ref _) (Value.ref _)) _ _ _)); (fail_if_success (with_reducible show wpAny _ _ (call (Value.builtin "list.append") _) _ _ _)); (fail_if_success (with_reducible show wpAny _ _ (subscriptTail _ _ (Value.ref _) (Value.int (Int.fmod _ _) _)) _ _ _)); (fail_if_success (with_reducible show LCg.CompSrc _ _ _ _ _ _ _ _ _ _ _ _ _ _)); (fail_if_success (with_reducible show CtSrc _ _ _ _ _ _ _ _ _ _ _ _ _ _ _ _ _ _ _ _ _)); (fail_if_success (with_reducible show wpAny _ _ (call (Value.ref 248) _) _ _ _)); (fail_if_success (with_reducible show wpAny _ _ (call (Value.builtin "sum") _) _ _ _)); (fail_if_success (with_reducible show wpAny _ _ (call (Value.builtin "list.count") _) _ _ _)); (fail_if_success (with_reducible show wpAny _ _ (call (Value.type "str") _) _ _ _)); (fail_if_success (with_reducible show CpSrc _ _ _ _ _ _ _ _ _ _ _ _ _ _ _)); first | (k_unfold; (try dsimp only)) | (k_end; wrow_close) | walk1 | (dsimp only; walk1) | (leave1; walk_say "STEP leave1"; try dsimp only) | fail "no step")
    rename_i wl ha1 wlt h3 ocw F3 N3 hocw
    k_dflt (refine LpSrc.listS (its := ys.toArray) (by rfl) F3 (news_sub N3 (l' := [(wl, W.listOf [Value.int 1 tk2].toArray 0), (bl, LCg.lst ys), (cw, ocw), (ck, o_k), (83, tabObj #[]), (76, tabObj #[]), (48, tabObj #[])]) (by intro p; simp only [List.mem_cons, List.mem_append, List.cons_append, List.nil_append, List.not_mem_nil, or_false]; (repeat' (with_reducible refine or_step ?_ ?_)); all_goals (intro hp; simp only [hp, true_or, or_true]))) (fun i m' nw => (∃ vb, ∀ y, m' y = (fun y => if y = Str.ofString "bases" then some (.ref bl) else if y = Str.ofString "script" then some (.ref sc) else if y = Str.ofString "base" then vb else m y) y) ∧ ∃ vi u ew, nw = [(wl, W.listOf (vi ++ [Value.int (wOf (bOf f) i : Nat) u]).toArray ew), (bl, LCg.lst ys), (cw, ocw), (ck, o_k), (83, tabObj #[]), (76, tabObj #[]), (48, tabObj #[])] ∧ vi.length = i ∧ ∀ j < i, ∃ u', vi[j]? = some (Value.int (wOf (bOf f) j : Nat) u')) ?js ?j0 ?tn ?fn)
    case js =>
      rintro i m' nw ⟨_, vi, u, ew, rfl, _⟩
      exact .inr ⟨LCg.lst ys, by simp, rfl, _, rfl⟩
    case j0 => exact ⟨⟨m (Str.ofString "base"), fun y => (by by_cases hy0 : y = Str.ofString "base"; (case pos => (subst hy0; rfl)); by_cases hy1 : y = Str.ofString "bases"; (case pos => (subst hy1; rfl)); by_cases hy2 : y = Str.ofString "script"; (case pos => (subst hy2; rfl)); simp only [hy0, hy1, hy2, if_false])⟩, [], tk2, 0, rfl, rfl, fun j hj => absurd hj (Nat.not_lt_zero j)⟩
    case fn =>
      intro h30 tk30 dr30 m30 news30 F30 N30 hJ30
      obtain ⟨⟨vb, hm30⟩, vi, u, ew, rfl, hvl, hvv⟩ := hJ30
      replace F30 := fr_congr F30 hm30
      rw [List.size_toArray, hyl] at *
      dsimp only
      repeat' ((fail_if_success (with_reducible show wpAny _ _ (call (Value.ref 178) _) _ _ _)); (fail_if_success (with_reducible show wpAny _ _ (call (Value.ref 95) _) _ _ _)); (fail_if_success (with_reducible show wpAny _ _ (call (Value.ref 159) _) _ _ _)); (fail_if_success (with_reducible show wpAny _ _ (call (Value.ref 236) _) _ _ _)); (fail_if_success (with_reducible show wpAny _ _ (call (Value.ref 60) _) _ _ _)); (fail_if_success (with_reducible show LpSrc _ _ _ _ _ _ _ _ _ _ _)); (fail_if_success (with_reducible show wpAny _ _ (binaryOp Operator.FloorDiv _ _) _ _ _)); (fail_if_success (with_reducible show wpAny _ _ (inplaceOp Operator.FloorDiv _ _) _ _ _)); (fail_if_success (with_reducible show wpAny _ _ (binaryOp Operator.Mod _ _) _ _ _)); (fail_if_success (with_reducible show wpAny _ _ (binaryOp Operator.Mult (Value.ref _) _) _ _ _)); (fail_if_success (with_reducible show wpAny _ _ (binaryOp Operator.Mult (Value.int _ _) _) _ _ _)); (fail_if_success (with_reducible show wpAny _ _ (compareOp _ (Value.ref _) (Value.ref _)) _ _ _)); (fail_if_success (with_reducible show wpAny _ _ (call (Value.builtin "list.append") _) _ _ _)); (fail_if_success (with_reducible show wpAny _ _ (subscriptTail _ _ (Value.ref _) (Value.int (Int.fmod _ _) _)) _ _ _)); (fail_if_success (with_reducible show LCg.CompSrc _ _ _ _ _ _ _ _ _ _ _ _ _ _)); (fail_if_success (with_reducible show wpAny _ _ (execs (Stmt.For (PySem.Expr.Name _ _) _ _ _ _ :: _) _) _ _ _)); (fail_if_success (with_reducible show CtSrc _ _ _ _ _ _ _ _ _ _ _ _ _ _ _ _ _ _ _ _ _)); (fail_if_success (with_reducible show wpAny _ _ (call (Value.ref 248) _) _ _ _)); (fail_if_success (with_reducible show wpAny _ _ (call (Value.builtin "sum") _) _ _ _)); (fail_if_success (with_reducible show wpAny _ _ (call (Value.builtin "list.count") _) _ _ _)); (fail_if_success (with_reducible show wpAny _ _ (call (Value.type "str") _) _ _ _)); (fail_if_success (with_reducible show CpSrc _ _ _ _ _ _ _ _ _ _ _ _ _ _ _)); first | (k_unfold; (try dsimp only)) | (k_end; wrow_close) | walk1 | (dsimp only; walk1) | (leave1; walk_say "STEP leave1"; try dsimp only) | fail "no step")
      (rename Fr _ _ _ _ => F40)
      (rename News _ _ _ _ => N40)
      obtain ⟨nw, hL, NL⟩ := lawSt_start (wt := wOf (bOf f)) N40 ⟨_, hok⟩ (by omega) (by omega) (by omega) (by omega) (by omega) (by omega) (by omega) (by omega) (by omega) (by omega)
      k_dflt (refine law_B (b := bOf f) (bits := ys.toArray) (wits := (vi ++ [Value.int (wOf (bOf f) 4 : Nat) u]).toArray) (eb := ys.length) (ew := ew) B F40 X NL T hL (five_of ?hb5 ?hw5) (List.Mem.head _) (List.Mem.tail _ (List.Mem.head _)) (List.Mem.tail _ (List.Mem.tail _ (List.Mem.head _))) hocw hsc hsi C76 C83 C48 (by omega) (by omega) hsl ?_)
      case hb5 => exact fun k hk => by obtain ⟨u', hu'⟩ := hyv k hk; exact ⟨u', by simpa using hu'⟩
      case hw5 =>
        intro k hk
        by_cases hk4 : k = 4
        · subst hk4
          exact ⟨u, by rw [List.getElem?_toArray, ← hvl]; simp⟩
        · obtain ⟨u', hu'⟩ := hvv k (by omega)
          exact ⟨u', by rw [List.getElem?_toArray, List.getElem?_append_left (by omega)]; exact hu'⟩
      intro m9 o1' o2' o3' tl tl' h9 tk9 dr9 F9 N9 hS9
      exact hret m9 o1' o2' o3' tl tl' h9 tk9 dr9 F9 N9 hS9
    intro I i v m₁ news₁ oI h tk dr Q' E' hi hP hJ off F8 N8 k8
    obtain ⟨⟨vb, hm⟩, vi, u, ew, rfl, hvl, hvv⟩ := hJ
    replace F8 := fr_congr F8 hm
    clear hm
    rw [List.size_toArray, hyl] at hi
    obtain ⟨ub, hub⟩ := hyv i hi
    have hv : v = .int (bOf f i : Nat) ub := by
      have hP' : ys[i]? = some v := by simpa using hP
      rw [hub] at hP'
      exact (Option.some.inj hP').symm
    subst hv
    simp only [LCg.Off1, and_true] at off
    dsimp only
    repeat' ((fail_if_success (with_reducible show wpAny _ _ (call (Value.ref 178) _) _ _ _)); (fail_if_success (with_reducible show wpAny _ _ (call (Value.ref 95) _) _ _ _)); (fail_if_success (with_reducible show wpAny _ _ (call (Value.ref 159) _) _ _ _)); (fail_if_success (with_reducible show wpAny _ _ (call (Value.ref 236) _) _ _ _)); (fail_if_success (with_reducible show wpAny _ _ (call (Value.ref 60) _) _ _ _)); (fail_if_success (with_reducible show LpSrc _ _ _ _ _ _ _ _ _ _ _)); (fail_if_success (with_reducible show wpAny _ _ (binaryOp Operator.FloorDiv _ _) _ _ _)); (fail_if_success (with_reducible show wpAny _ _ (inplaceOp Operator.FloorDiv _ _) _ _ _)); (fail_if_success (with_reducible show wpAny _ _ (binaryOp Operator.Mod _ _) _ _ _)); (fail_if_success (with_reducible show wpAny _ _ (binaryOp Operator.Mult (Value.ref _) _) _ _ _)); (fail_if_success (with_reducible show wpAny _ _ (binaryOp Operator.Mult (Value.int _ _) _) _ _ _)); (fail_if_success (with_reducible show wpAny _ _ (compareOp _ (Value.ref _) (Value.ref _)) _ _ _)); (fail_if_success (with_reducible show wpAny _ _ (call (Value.builtin "list.append") _) _ _ _)); (fail_if_success (with_reducible show wpAny _ _ (subscriptTail _ _ (Value.ref _) (Value.int _ _)) _ _ _)); (fail_if_success (with_reducible show wpAny _ _ (subscriptTail _ _ (Value.ref _) (Value.int (Int.fmod _ _) _)) _ _ _)); (fail_if_success (with_reducible show LCg.CompSrc _ _ _ _ _ _ _ _ _ _ _ _ _ _)); (fail_if_success (with_reducible show CtSrc _ _ _ _ _ _ _ _ _ _ _ _ _ _ _ _ _ _ _ _ _)); (fail_if_success (with_reducible show wpAny _ _ (call (Value.ref 248) _) _ _ _)); (fail_if_success (with_reducible show wpAny _ _ (call (Value.builtin "sum") _) _ _ _)); (fail_if_success (with_reducible show wpAny _ _ (call (Value.builtin "list.count") _) _ _ _)); (fail_if_success (with_reducible show wpAny _ _ (call (Value.type "str") _) _ _ _)); (fail_if_success (with_reducible show CpSrc _ _ _ _ _ _ _ _ _ _ _ _ _ _ _)); first | (k_unfold; (try dsimp only)) | (k_end; wrow_close) | walk1 | (dsimp only; walk1) | (leave1; walk_say "STEP leave1"; try dsimp only) | fail "no step")
    (rename Fr _ _ _ _ => F9)
    (rename News _ _ _ _ => N9)
    k_dflt (refine item_last (News.isList N9 (by k_mem)) ?_)
    repeat' ((fail_if_success (with_reducible show wpAny _ _ (call (Value.ref 178) _) _ _ _)); (fail_if_success (with_reducible show wpAny _ _ (call (Value.ref 95) _) _ _ _)); (fail_if_success (with_reducible show wpAny _ _ (call (Value.ref 159) _) _ _ _)); (fail_if_success (with_reducible show wpAny _ _ (call (Value.ref 236) _) _ _ _)); (fail_if_success (with_reducible show wpAny _ _ (call (Value.ref 60) _) _ _ _)); (fail_if_success (with_reducible show LpSrc _ _ _ _ _ _ _ _ _ _ _)); (fail_if_success (with_reducible show wpAny _ _ (binaryOp Operator.FloorDiv _ _) _ _ _)); (fail_if_success (with_reducible show wpAny _ _ (inplaceOp Operator.FloorDiv _ _) _ _ _)); (fail_if_success (with_reducible show wpAny _ _ (binaryOp Operator.Mod _ _) _ _ _)); (fail_if_success (with_reducible show wpAny _ _ (binaryOp Operator.Mult (Value.ref _) _) _ _ _)); (fail_if_success (with_reducible show wpAny _ _ (binaryOp Operator.Mult (Value.int _ _) _) _ _ _)); (fail_if_success (with_reducible show wpAny _ _ (compareOp _ (Value.ref _) (Value.ref _)) _ _ _)); (fail_if_success (with_reducible show wpAny _ _ (call (Value.builtin "list.append") _) _ _ _)); (fail_if_success (with_reducible show wpAny _ _ (subscriptTail _ _ (Value.ref _) (Value.int (Int.fmod _ _) _)) _ _ _)); (fail_if_success (with_reducible show LCg.CompSrc _ _ _ _ _ _ _ _ _ _ _ _ _ _)); (fail_if_success (with_reducible show CtSrc _ _ _ _ _ _ _ _ _ _ _ _ _ _ _ _ _ _ _ _ _)); (fail_if_success (with_reducible show wpAny _ _ (call (Value.ref 248) _) _ _ _)); (fail_if_success (with_reducible show wpAny _ _ (call (Value.builtin "sum") _) _ _ _)); (fail_if_success (with_reducible show wpAny _ _ (call (Value.builtin "list.count") _) _ _ _)); (fail_if_success (with_reducible show wpAny _ _ (call (Value.type "str") _) _ _ _)); (fail_if_success (with_reducible show CpSrc _ _ _ _ _ _ _ _ _ _ _ _ _ _ _)); first | (k_unfold; (try dsimp only)) | (k_end; wrow_close) | walk1 | (dsimp only; walk1) | (leave1; walk_say "STEP leave1"; try dsimp only) | fail "no step")
    k_dflt (refine mul_nat (bOf_bounds f i).2 (c := wOf (bOf f) (i + 1)) rfl ?_)
    repeat' ((fail_if_success (with_reducible show wpAny _ _ (call (Value.ref 178) _) _ _ _)); (fail_if_success (with_reducible show wpAny _ _ (call (Value.ref 95) _) _ _ _)); (fail_if_success (with_reducible show wpAny _ _ (call (Value.ref 159) _) _ _ _)); (fail_if_success (with_reducible show wpAny _ _ (call (Value.ref 236) _) _ _ _)); (fail_if_success (with_reducible show wpAny _ _ (call (Value.ref 60) _) _ _ _)); (fail_if_success (with_reducible show LpSrc _ _ _ _ _ _ _ _ _ _ _)); (fail_if_success (with_reducible show wpAny _ _ (binaryOp Operator.FloorDiv _ _) _ _ _)); (fail_if_success (with_reducible show wpAny _ _ (inplaceOp Operator.FloorDiv _ _) _ _ _)); (fail_if_success (with_reducible show wpAny _ _ (binaryOp Operator.Mod _ _) _ _ _)); (fail_if_success (with_reducible show wpAny _ _ (binaryOp Operator.Mult (Value.ref _) _) _ _ _)); (fail_if_success (with_reducible show wpAny _ _ (binaryOp Operator.Mult (Value.int _ _) _) _ _ _)); (fail_if_success (with_reducible show wpAny _ _ (compareOp _ (Value.ref _) (Value.ref _)) _ _ _)); (fail_if_success (with_reducible show wpAny _ _ (call (Value.builtin "list.append") _) _ _ _)); (fail_if_success (with_reducible show wpAny _ _ (subscriptTail _ _ (Value.ref _) (Value.int (Int.fmod _ _) _)) _ _ _)); (fail_if_success (with_reducible show LCg.CompSrc _ _ _ _ _ _ _ _ _ _ _ _ _ _)); (fail_if_success (with_reducible show CtSrc _ _ _ _ _ _ _ _ _ _ _ _ _ _ _ _ _ _ _ _ _)); (fail_if_success (with_reducible show wpAny _ _ (call (Value.ref 248) _) _ _ _)); (fail_if_success (with_reducible show wpAny _ _ (call (Value.builtin "sum") _) _ _ _)); (fail_if_success (with_reducible show wpAny _ _ (call (Value.builtin "list.count") _) _ _ _)); (fail_if_success (with_reducible show wpAny _ _ (call (Value.type "str") _) _ _ _)); (fail_if_success (with_reducible show CpSrc _ _ _ _ _ _ _ _ _ _ _ _ _ _ _)); first | (k_unfold; (try dsimp only)) | (k_end; wrow_close) | walk1 | (dsimp only; walk1) | (leave1; walk_say "STEP leave1"; try dsimp only) | fail "no step")
    (rename Fr _ _ _ _ => F10)
    (rename News _ _ _ _ => N10)
    k_dflt (refine append_own (n := ew) (vs := vi ++ [Value.int (wOf (bOf f) i : Nat) u]) (rest := [(I, oI), (bl, LCg.lst ys), (cw, ocw), (ck, o_k), (83, tabObj #[]), (76, tabObj #[]), (48, tabObj #[])]) F10 (news_sub N10 (by intro p; simp only [List.mem_cons, List.mem_append, List.cons_append, List.nil_append, List.not_mem_nil, or_false]; (repeat' (with_reducible refine or_step ?_ ?_)); all_goals (intro hp; simp only [hp, true_or, or_true]))) ?_ (by rw [List.length_append, List.length_singleton]; omega) ?_)
    · intro p hp
      simp only [List.mem_cons, List.not_mem_nil, or_false] at hp
      rcases hp with rfl | rfl | rfl | rfl | rfl | rfl | rfl
      · exact (show @Ne Nat I wl by omega)
      · exact (show @Ne Nat bl wl by omega)
      · exact (show @Ne Nat cw wl by omega)
      · exact (show @Ne Nat ck wl by omega)
      · exact (show @Ne Nat 83 wl by omega)
      · exact (show @Ne Nat 76 wl by omega)
      · exact (show @Ne Nat 48 wl by omega)
    intro h11 F11 N11
    dsimp only
    repeat' ((fail_if_success (with_reducible show wpAny _ _ (call (Value.ref 178) _) _ _ _)); (fail_if_success (with_reducible show wpAny _ _ (call (Value.ref 95) _) _ _ _)); (fail_if_success (with_reducible show wpAny _ _ (call (Value.ref 159) _) _ _ _)); (fail_if_success (with_reducible show wpAny _ _ (call (Value.ref 236) _) _ _ _)); (fail_if_success (with_reducible show wpAny _ _ (call (Value.ref 60) _) _ _ _)); (fail_if_success (with_reducible show LpSrc _ _ _ _ _ _ _ _ _ _ _)); (fail_if_success (with_reducible show wpAny _ _ (binaryOp Operator.FloorDiv _ _) _ _ _)); (fail_if_success (with_reducible show wpAny _ _ (inplaceOp Operator.FloorDiv _ _) _ _ _)); (fail_if_success (with_reducible show wpAny _ _ (binaryOp Operator.Mod _ _) _ _ _)); (fail_if_success (with_reducible show wpAny _ _ (binaryOp Operator.Mult (Value.ref _) _) _ _ _)); (fail_if_success (with_reducible show wpAny _ _ (binaryOp Operator.Mult (Value.int _ _) _) _ _ _)); (fail_if_success (with_reducible show wpAny _ _ (compareOp _ (Value.ref _) (Value.ref _)) _ _ _)); (fail_if_success (with_reducible show wpAny _ _ (call (Value.builtin "list.append") _) _ _ _)); (fail_if_success (with_reducible show wpAny _ _ (subscriptTail _ _ (Value.ref _) (Value.int (Int.fmod _ _) _)) _ _ _)); (fail_if_success (with_reducible show LCg.CompSrc _ _ _ _ _ _ _ _ _ _ _ _ _ _)); (fail_if_success (with_reducible show CtSrc _ _ _ _ _ _ _ _ _ _ _ _ _ _ _ _ _ _ _ _ _)); (fail_if_success (with_reducible show wpAny _ _ (call (Value.ref 248) _) _ _ _)); (fail_if_success (with_reducible show wpAny _ _ (call (Value.builtin "sum") _) _ _ _)); (fail_if_success (with_reducible show wpAny _ _ (call (Value.builtin "list.count") _) _ _ _)); (fail_if_success (with_reducible show wpAny _ _ (call (Value.type "str") _) _ _ _)); (fail_if_success (with_reducible show CpSrc _ _ _ _ _ _ _ _ _ _ _ _ _ _ _)); first | (k_unfold; (try dsimp only)) | (k_end; wrow_close) | walk1 | (dsimp only; walk1) | (leave1; walk_say "STEP leave1"; try dsimp only) | fail "no step")
    refine k8 _ _ _ _ _ (by k_asm) (news_swap N11) ?_ ⟨⟨some (.int (bOf f i : Nat) ub), fun y => (by by_cases hy0 : y = Str.ofString "base"; (case pos => (subst hy0; rfl)); by_cases hy1 : y = Str.ofString "bases"; (case pos => (subst hy1; rfl)); by_cases hy2 : y = Str.ofString "script"; (case pos => (subst hy2; rfl)); simp only [hy0, hy1, hy2, if_false])⟩, vi ++ [Value.int (wOf (bOf f) i : Nat) u], _, _, rfl, by rw [List.length_append, List.length_singleton, hvl], ?_⟩
    · simp only [LCg.Off1, and_true]; exact off
    · intro j hj
      by_cases hji : j = i
      · subst hji
        exact ⟨u, by rw [← hvl]; simp⟩
      · obtain ⟨u', hu'⟩ := hvv j (by omega)
        exact ⟨u', by rw [List.getElem?_append_left (by omega)]; exact hu'⟩
end
end PartC17
section PartC18
theorem obj_239 (P : Params) : ∃ o, (hd.heap_39 P).lookup 239 = some o := ⟨_, rfl⟩
theorem grown_of {P line col : Nat} {qual : Str} {oP : Obj} {l tl : List (Addr × Obj)} {h₀ h : Heap} {L : Addr} (hS : TabSt P line col qual oP l) (N : News h₀ L h tl) (hm : (P, oP) ∈ tl) : GrownAt P h := by
  rcases hS with rfl | ⟨c', oc, vs, t, rfl, _⟩
  · exact GrownAt.of N hm
  · exact GrownAt.of N hm
theorem post_true (ns : List Int) : Challenge.rw_ny0343_01.row.claim.post [ofPy (PyData.list (List.map PyData.int ns))] (WData.bool true) [ofPy (PyData.list (List.map PyData.int ns))] = true := by
  kernel_rfl
theorem fr_split {h₀ h : Heap} {L : Addr} {m : Str → Option Value} {x : Str} {v : Option Value} (F : Fr h₀ L h m) (e : m x = v) : Fr h₀ L h (fun y => if y = x then v else m y) := fr_congr F fun y => by
  by_cases hy : y = x
  · rw [if_pos hy, hy, e]
  · rw [if_neg hy]
theorem t1 : PySem.Challenge.rw_ny0343_01.Holds := hd (by
  w_strict (k_go0; (all_goals try k_fold))
  rename_i ow9 ok9 of9 hw9 hk9 hf9 Y9 X9 T9 B9 F9 c1 c2 N9 l9
  obtain ⟨o9, ho9⟩ := obj_239 _
  have hsz := Nat.lt_of_lt_of_le (Heap.lt_size (X9 239 o9 ho9)) F9.above
  k_dflt (refine law_A B9 (fr_split F9 (by rfl)) X9 N9 T9 ?of ?ok ?ow ?c1 ?c2 ?c3 lifted (by assumption) (by omega) c2 c1 codeHd ?hd ?hu ?_)
  case of => exact hf9
  case ok => exact hk9
  case ow => exact hw9
  case c1 => omega
  case c2 => omega
  case c3 => omega
  case hd => first | ktr_room | decide
  case hu => first | ktr_units | decide
  intro m' o1' o2' o3' tl tl' h' tk' dr' F' N' hS
  exact ⟨goodW_bool F' (by assumption) (fun _ => rfl) (post_true _) rfl, grown_of hS.2.1 N' (by simp), grown_of hS.1 N' (by simp), grown_of hS.2.2 N' (by simp), trivial⟩)
end PartC18
end STL
end Mine
set_option maxRecDepth 100000 in
set_option maxHeartbeats 8000000 in
theorem PySem.Challenge.cw_ny0343_01_holds : PySem.Challenge.rw_ny0343_01.Holds :=
  Mine.t1
